import PyProof.Rows.All
import Wide.All
import OpenK.AllK
import Wide.FinOn
import PySem.Challenge.RW_dp0038_05
set_option Elab.async false
section
open PySem PySem.W PyProof.Rows
namespace Mine

/-! Values, memory, representation -/
inductive Val where
  | none
  | bool (b : Bool)
  | int (i : Int)
  | str (x : Str)
  | tup (vs : List Val)
  | lst (vs : List Val)
  | ref (a : Addr)

inductive Box where
  | list (vs : List Val)
  | dict (kvs : List (Int × Val))

abbrev Mem := Addr → Option Box

mutual
inductive RV (h : Heap) (mem : Mem) : Value → Val → Prop
  | none : RV h mem Value.none Val.none
  | bool (b : Bool) : RV h mem (Value.bool b) (Val.bool b)
  | int (i : Int) (t : Tok) : RV h mem (Value.int i t) (Val.int i)
  | str (x : Str) (t : Tok) : RV h mem (Value.str x t) (Val.str x)
  | tup {a : Addr} {items : List Value} {n : Nat} {vs : List Val} : IsT h a items.toArray n → mem a = Option.none → RVs h mem items vs → RV h mem (Value.ref a) (Val.tup vs)
  | lst {a : Addr} {items : List Value} {n : Nat} {vs : List Val} : IsL h a items.toArray n → mem a = Option.none → RVs h mem items vs → RV h mem (Value.ref a) (Val.lst vs)
  | ref (a : Addr) : RV h mem (Value.ref a) (Val.ref a)
inductive RVs (h : Heap) (mem : Mem) : List Value → List Val → Prop
  | nil : RVs h mem [] []
  | cons {v : Value} {vs : List Value} {V : Val} {Vs : List Val} : RV h mem v V → RVs h mem vs Vs → RVs h mem (v :: vs) (V :: Vs)
end

def isSeqObj (o : Obj) : Prop := ∃ items n, o.data = .seq items n

mutual
theorem RV.mono {h h' : Heap} {mem mem' : Mem} (hk : ∀ b o, h.get? b = some o → mem b = none → isSeqObj o → h'.get? b = some o ∧ mem' b = none) :
    ∀ {v : Value} {V : Val}, RV h mem v V → RV h' mem' v V
  | _, _, .none => .none
  | _, _, .bool b => .bool b
  | _, _, .int i t => .int i t
  | _, _, .str x t => .str x t
  | _, _, .tup e m r => let k := hk _ _ e m ⟨_, _, rfl⟩; .tup k.1 k.2 (RVs.mono hk r)
  | _, _, .lst e m r => let k := hk _ _ e m ⟨_, _, rfl⟩; .lst k.1 k.2 (RVs.mono hk r)
  | _, _, .ref a => .ref a
theorem RVs.mono {h h' : Heap} {mem mem' : Mem} (hk : ∀ b o, h.get? b = some o → mem b = none → isSeqObj o → h'.get? b = some o ∧ mem' b = none) :
    ∀ {vs : List Value} {Vs : List Val}, RVs h mem vs Vs → RVs h' mem' vs Vs
  | _, _, .nil => .nil
  | _, _, .cons a r => .cons (RV.mono hk a) (RVs.mono hk r)
end

section
variable {h : Heap} {mem : Mem} {vs ws : List Value} {Vs Ws : List Val}
theorem RVs.length (r : RVs h mem vs Vs) : vs.length = Vs.length := by
  induction vs generalizing Vs with
  | nil => cases r; rfl
  | cons v vs ih => cases r with | cons _ r => simp [ih r]
theorem RVs.append (r : RVs h mem vs Vs) (q : RVs h mem ws Ws) : RVs h mem (vs ++ ws) (Vs ++ Ws) := by
  induction vs generalizing Vs with
  | nil => cases r; exact q
  | cons v vs ih => cases r with | cons a r => exact .cons a (ih r)
theorem RVs.get (r : RVs h mem vs Vs) {k : Nat} {V : Val} (e : Vs[k]? = some V) : ∃ v, vs[k]? = some v ∧ RV h mem v V := by
  induction vs generalizing Vs k with
  | nil => cases r; simp at e
  | cons v vs ih =>
    cases r with
    | cons a r =>
      cases k with
      | zero => simp at e; subst e; exact ⟨v, rfl, a⟩
      | succ k => simp at e; exact ih r e
theorem RVs.get' (r : RVs h mem vs Vs) {k : Nat} {v : Value} (e : vs[k]? = some v) : ∃ V, Vs[k]? = some V ∧ RV h mem v V := by
  induction vs generalizing Vs k with
  | nil => simp at e
  | cons u vs ih =>
    cases r with
    | cons a r =>
      cases k with
      | zero => simp at e; subst e; exact ⟨_, rfl, a⟩
      | succ k => simp at e; exact ih r e
theorem RVs.set (r : RVs h mem vs Vs) {k : Nat} {v : Value} {V : Val} (e : RV h mem v V) : RVs h mem (vs.set k v) (Vs.set k V) := by
  induction vs generalizing Vs k with
  | nil => cases r; exact .nil
  | cons u vs ih =>
    cases r with
    | cons a r =>
      cases k with
      | zero => exact .cons e r
      | succ k => exact .cons a (ih r)
theorem RVs.drop (r : RVs h mem vs Vs) (k : Nat) : RVs h mem (vs.drop k) (Vs.drop k) := by
  induction vs generalizing Vs k with
  | nil => cases r; simpa using RVs.nil
  | cons u vs ih =>
    cases r with
    | cons a r =>
      cases k with
      | zero => exact .cons a r
      | succ k => exact ih r k
theorem RVs.take (r : RVs h mem vs Vs) (k : Nat) : RVs h mem (vs.take k) (Vs.take k) := by
  induction vs generalizing Vs k with
  | nil => cases r; simpa using RVs.nil
  | cons u vs ih =>
    cases r with
    | cons a r =>
      cases k with
      | zero => exact .nil
      | succ k => exact .cons a (ih r k)
theorem RVs.snoc (r : RVs h mem vs Vs) {v : Value} {V : Val} (e : RV h mem v V) : RVs h mem (vs ++ [v]) (Vs ++ [V]) := r.append (.cons e .nil)
theorem RVs.reverse (r : RVs h mem vs Vs) : RVs h mem vs.reverse Vs.reverse := by
  induction vs generalizing Vs with
  | nil => cases r; exact .nil
  | cons v vs ih => cases r with | cons a r => simpa using (ih r).snoc a
theorem RVs.ints {ns : List Int} (r : RVs h mem vs (ns.map Val.int)) : IntsAre vs ns := by
  induction vs generalizing ns with
  | nil =>
    cases ns with
    | nil => exact .nil
    | cons n ns => cases r
  | cons v vs ih =>
    cases ns with
    | nil => cases r
    | cons n ns =>
      cases r with
      | cons a r =>
        cases a with
        | int i t => exact .cons _ _ (ih r)
theorem RVs.of_ints {ns : List Int} (r : IntsAre vs ns) : RVs h mem vs (ns.map Val.int) := by
  induction r with
  | nil => exact .nil
  | cons n t r ih => exact .cons (.int _ _) ih
end

structure St where
  mem : Mem
  loc : Str → Option Val

def St.put (σ : St) (a : Addr) (b : Box) : St := { σ with mem := fun c => if c = a then some b else σ.mem c }
def St.set (σ : St) (x : Str) (v : Val) : St := { σ with loc := fun y => if y = x then some v else σ.loc y }

theorem St.put_mem (σ : St) (a : Addr) (b : Box) (c : Addr) : (σ.put a b).mem c = if c = a then some b else σ.mem c := rfl
theorem St.put_loc (σ : St) (a : Addr) (b : Box) : (σ.put a b).loc = σ.loc := rfl
theorem St.set_mem (σ : St) (x : Str) (v : Val) : (σ.set x v).mem = σ.mem := rfl
theorem St.set_loc (σ : St) (x : Str) (v : Val) (y : Str) : (σ.set x v).loc y = if y = x then some v else σ.loc y := rfl

/-! Contexts -/
structure Base where
  prog : Program
  w : World
  h₁ : Heap
  os : OsState
  mg : Str → Option Value
  mb : Str → Option Value

structure Base.Ok (B : Base) : Prop where
  g : B.h₁.Ns mainGlobals B.mg
  b : B.h₁.Ns builtinsNs B.mb
  boot : ∀ x, x ≠ ("__name__" : Str) → B.mb x = bootBuiltins x
  lim : B.h₁.NoLimit

structure Fm where
  L : Addr
  cells : List (Str × Addr)
  own : List Addr
  qual : Str
  func : Option Addr
  code : Value
  frame : Option Addr

def Fm.env (f : Fm) (sc : Scope) : Env :=
  { scope := sc, locals := f.L, globals := mainGlobals, cells := f.cells, qual := f.qual, func := f.func, code := f.code, frame := f.frame, builtins := builtinsNs }

structure Cx where
  B : Base
  A : Around
  f : Fm
  sc : Scope

abbrev Cx.env (X : Cx) : Env := X.f.env X.sc
abbrev Cx.M (X : Cx) : Model := model X.B.prog X.B.w

structure Cx.Ok (X : Cx) (n : Nat) : Prop where
  base : X.B.Ok
  kind : X.sc.kind = .function
  handled : X.A.handled = none
  depth : X.A.depth + n < recursionLimit
  units : X.A.units + 10 * n + 100 < cLine
  newL : X.B.h₁.get? X.f.L = none
  cellNew : ∀ c ∈ X.f.own, X.B.h₁.get? c = none ∧ c ≠ X.f.L
  cellInj : ∀ x y c, X.f.cells.lookup x = some c → X.f.cells.lookup y = some c → x = y

def IsBox (B : Base) (h : Heap) (mem : Mem) (a : Addr) : Box → Prop
  | .list vs => ∃ items n, IsL h a (List.toArray items) n ∧ RVs h mem items vs
  | .dict kvs => ∃ kvs' : List (Int × Value), h.DictOf (intKind B.prog B.w) a kvs' ∧ kvs'.map (·.1) = kvs.map (·.1) ∧ RVs h mem (kvs'.map (·.2)) (kvs.map (·.2))

def EnvOk (X : Cx) (σ : St) (h : Heap) : Prop :=
  ∃ m, h.Ns X.f.L m ∧ σ.mem X.f.L = none ∧
  (∀ c, (c ∈ X.f.own ∨ ∃ x, (x, c) ∈ X.f.cells) → σ.mem c = none ∧ ∃ v, h.IsCell c v) ∧
  (∀ x V, σ.loc x = some V → (x == ("__debug__" : Str)) = false ∧ ∃ v, RV h σ.mem v V ∧
    ((X.env.kindOf x = some .local ∧ m x = some v) ∨
     (∃ c, X.f.cells.lookup x = some c ∧ h.IsCell c (some v) ∧ σ.mem c = none ∧
       (X.env.kindOf x = some .cell ∨ (X.env.kindOf x = some .free ∧ (x == ("__classdict__" : Str)) = false)))))

structure Rep (X : Cx) (σ : St) (s : Shared) : Prop where
  keep : ∀ b o, X.B.h₁.get? b = some o → s.heap.get? b = some o
  gens : s.gens = #[]
  os : s.os = X.B.os
  mem : ∀ a bx, σ.mem a = some bx → X.B.h₁.get? a = none ∧ IsBox X.B s.heap σ.mem a bx
  env : EnvOk X σ s.heap

structure Ext (X : Cx) (σ : St) (s : Shared) (σ' : St) (s' : Shared) : Prop where
  keep : ∀ b o, s.heap.get? b = some o → σ.mem b = none → b ≠ X.f.L → b ∉ X.f.own → s'.heap.get? b = some o
  mem : ∀ b o, s.heap.get? b = some o → σ.mem b = none → σ'.mem b = none
  live : ∀ b o, s.heap.get? b = some o → ∃ o', s'.heap.get? b = some o'

end Mine
end
section
open PySem PySem.W PyProof.Rows
namespace Mine

section
variable {X : Cx} {σ σ' σ'' : St} {s s' s'' : Shared} {h' : Heap} {t : Nat} {a : Addr} {bx bx' : Box}

theorem isSeq_L {h : Heap} {a : Addr} {items : Array Value} {n : Nat} (e : IsL h a items n) {o : Obj} (ho : h.get? a = some o) : isSeqObj o := by
  rw [e] at ho; cases ho; exact ⟨_, _, rfl⟩

theorem IsBox.live {B : Base} {h : Heap} {mem : Mem} (b : IsBox B h mem a bx) : ∃ o, h.get? a = some o ∧ (isSeqObj o ∨ ∃ es n, o.data = .dict es n) := by
  cases bx with
  | list vs => obtain ⟨items, n, e, _⟩ := b; exact ⟨_, e, .inl ⟨_, _, rfl⟩⟩
  | dict kvs => obtain ⟨kvs', ⟨o, es, ep, ho, _, hd, _⟩, _⟩ := b; exact ⟨o, ho, .inr ⟨es, ep, hd⟩⟩

theorem IsBox.mono {B : Base} {h h' : Heap} {mem mem' : Mem} (hk : ∀ b o, h.get? b = some o → mem b = none → isSeqObj o → h'.get? b = some o ∧ mem' b = none)
    (ha : ∀ o, h.get? a = some o → h'.get? a = some o) (b : IsBox B h mem a bx) : IsBox B h' mem' a bx := by
  cases bx with
  | list vs => obtain ⟨items, n, e, r⟩ := b; exact ⟨items, n, ha _ e, r.mono hk⟩
  | dict kvs =>
    obtain ⟨kvs', ⟨o, es, ep, ho, r⟩, e1, e2⟩ := b
    exact ⟨kvs', ⟨o, es, ep, ha _ ho, r⟩, e1, e2.mono hk⟩

/-- the cells and the frame, known again in a heap that keeps them -/
theorem EnvOk.mono {h h' : Heap} (hk : ∀ b o, h.get? b = some o → σ.mem b = none → isSeqObj o → h'.get? b = some o ∧ σ'.mem b = none)
    (hL : ∀ o, h.get? X.f.L = some o → h'.get? X.f.L = some o) (hc : ∀ c v, h.IsCell c v → σ.mem c = none → h'.IsCell c v ∧ σ'.mem c = none)
    (hL' : σ'.mem X.f.L = none) (hloc : ∀ x V, σ'.loc x = some V → σ.loc x = some V) (e : EnvOk X σ h) : EnvOk X σ' h' := by
  obtain ⟨m, hn, _, ho, hl⟩ := e
  refine ⟨m, hn.at' hL, hL', fun c hm => ?_, fun x V hx => ?_⟩
  · obtain ⟨q, v, hv⟩ := ho c hm
    have := hc c v hv q
    exact ⟨this.2, v, this.1⟩
  · obtain ⟨hd, v, rv, hh⟩ := hl x V (hloc x V hx)
    refine ⟨hd, v, rv.mono hk, hh.imp id ?_⟩
    rintro ⟨c, e1, e2, e3, e4⟩
    have := hc c _ e2 e3
    exact ⟨c, e1, this.1, this.2, e4⟩

theorem Rep.isL (R : Rep X σ s) {vs : List Val} (h : σ.mem a = some (.list vs)) : ∃ items n, IsL s.heap a (List.toArray items) n ∧ RVs s.heap σ.mem items vs := (R.mem a _ h).2

theorem Rep.live (R : Rep X σ s) (h : σ.mem a = some bx) : ∃ o, s.heap.get? a = some o := let ⟨o, e, _⟩ := (R.mem a _ h).2.live; ⟨o, e⟩

theorem Rep.fresh (R : Rep X σ s) (h : s.heap.get? a = none) : σ.mem a = none ∧ X.B.h₁.get? a = none := by
  refine ⟨?_, ?_⟩
  · cases e : σ.mem a with
    | none => rfl
    | some bx => obtain ⟨o, ho⟩ := R.live e; rw [h] at ho; cases ho
  · cases e : X.B.h₁.get? a with
    | none => rfl
    | some o => rw [R.keep _ _ e] at h; cases h

theorem Rep.locals_ne (R : Rep X σ s) {o : Obj} (ho : s.heap.get? a = some o) (hd : ∀ es n, o.data ≠ .dict es n) : a ≠ X.f.L := by
  rintro rfl
  obtain ⟨m, ⟨o', es, ep, h1, h2, _⟩, _⟩ := R.env
  rw [ho] at h1; cases h1; exact hd _ _ h2
theorem Rep.own_ne (R : Rep X σ s) {o : Obj} (ho : s.heap.get? a = some o) (hd : ∀ v, o.data ≠ .cell v) : a ∉ X.f.own := by
  intro hm
  obtain ⟨m, _, _, hc, _⟩ := R.env
  obtain ⟨_, v, o', h1, h2⟩ := hc a (.inl hm)
  rw [ho] at h1; cases h1; exact hd _ h2
theorem seq_no_dict {o : Obj} (h : isSeqObj o) (es n) : o.data ≠ .dict es n := by obtain ⟨i, k, e⟩ := h; rw [e]; nofun
theorem seq_no_cell {o : Obj} (h : isSeqObj o) (v) : o.data ≠ .cell v := by obtain ⟨i, k, e⟩ := h; rw [e]; nofun

/-! Ext -/
theorem Ext.refl : Ext X σ s σ s := ⟨fun _ _ e _ _ _ => e, fun _ _ _ e => e, fun _ o e => ⟨o, e⟩⟩
theorem Ext.seq (R : Rep X σ s) (x : Ext X σ s σ' s') : ∀ b o, s.heap.get? b = some o → σ.mem b = none → isSeqObj o → s'.heap.get? b = some o ∧ σ'.mem b = none :=
  fun b o e m q => ⟨x.keep b o e m (R.locals_ne e (seq_no_dict q)) (R.own_ne e (seq_no_cell q)), x.mem b o e m⟩
theorem Ext.rv (x : Ext X σ s σ' s') (R : Rep X σ s) {v : Value} {V : Val} (r : RV s.heap σ.mem v V) : RV s'.heap σ'.mem v V := r.mono (x.seq R)
theorem Ext.rvs (x : Ext X σ s σ' s') (R : Rep X σ s) {v : List Value} {V : List Val} (r : RVs s.heap σ.mem v V) : RVs s'.heap σ'.mem v V := r.mono (x.seq R)
theorem Ext.trans (x : Ext X σ s σ' s') (R' : Rep X σ' s') (y : Ext X σ' s' σ'' s'') : Ext X σ s σ'' s'' := by
  refine ⟨fun b o e m hL ho => y.keep b o (x.keep b o e m hL ho) (x.mem b o e m) hL ho, fun b o e m => ?_, fun b o e => let ⟨o', e'⟩ := x.live b o e; y.live b o' e'⟩
  by_cases hL : b = X.f.L
  · have h1 := x.mem b o e m
    obtain ⟨m', ⟨o', _, _, h2, _⟩, _⟩ := R'.env
    exact y.mem b o' (hL ▸ h2) h1
  · by_cases ho : b ∈ X.f.own
    · have h1 := x.mem b o e m
      obtain ⟨m', _, _, hc, _⟩ := R'.env
      obtain ⟨_, v, o', h2, _⟩ := hc b (.inl ho)
      exact y.mem b o' h2 h1
    · exact y.mem b o (x.keep b o e m hL ho) (x.mem b o e m)

/-- nothing written, things may be new -/
theorem Rep.grow (R : Rep X σ s) (hk : ∀ b o, s.heap.get? b = some o → h'.get? b = some o) : Rep X σ { s with heap := h', toks := t } ∧ Ext X σ s σ { s with heap := h', toks := t } := by
  refine ⟨⟨fun b o e => hk b o (R.keep b o e), R.gens, R.os, fun a bx e => ⟨(R.mem a bx e).1, (R.mem a bx e).2.mono (fun b o e m _ => ⟨hk b o e, m⟩) (hk a)⟩, ?_⟩, ⟨fun b o e _ _ _ => hk b o e, fun _ _ _ e => e, fun b o e => ⟨o, hk b o e⟩⟩⟩
  exact R.env.mono (fun b o e m _ => ⟨hk b o e, m⟩) (hk _) (fun c v ⟨o, e, d⟩ m => ⟨⟨o, hk _ _ e, d⟩, m⟩) (let ⟨_, _, q, _⟩ := R.env; q) (fun _ _ e => e)

theorem Rep.toks (R : Rep X σ s) : Rep X σ { s with toks := t } ∧ Ext X σ s σ { s with toks := t } := R.grow (h' := s.heap) fun _ _ e => e

/-- a thing of the walk's own (an iterator) is written -/
theorem Rep.touch (R : Rep X σ s) {W : Addr → Prop} (hk : ∀ b o, ¬ W b → s.heap.get? b = some o → h'.get? b = some o)
    (hW : ∀ b, W b → X.B.h₁.get? b = none ∧ b ≠ X.f.L ∧ σ.mem b = none ∧ ∀ o, s.heap.get? b = some o → ¬ isSeqObj o ∧ ∀ v, o.data ≠ .cell v) :
    Rep X σ { s with heap := h', toks := t } := by
  have ks : ∀ b o, s.heap.get? b = some o → σ.mem b = none → isSeqObj o → h'.get? b = some o ∧ σ.mem b = none :=
    fun b o e m q => ⟨hk b o (fun w => ((hW b w).2.2.2 o e).1 q) e, m⟩
  refine ⟨fun b o e => hk b o (fun w => ?_) (R.keep b o e), R.gens, R.os, fun a bx e => ⟨(R.mem a bx e).1, (R.mem a bx e).2.mono ks fun o e' => hk a o (fun w => ?_) e'⟩, ?_⟩
  · rw [(hW b w).1] at e; cases e
  · rw [(hW a w).2.2.1] at e; cases e
  · exact R.env.mono ks (fun o e => hk _ o (fun w => (hW _ w).2.1 rfl) e) (fun c v ⟨o, e, d⟩ m => ⟨⟨o, hk _ _ (fun w => ((hW _ w).2.2.2 o e).2 _ d) e, d⟩, m⟩) (let ⟨_, _, q, _⟩ := R.env; q) (fun _ _ e => e)

/-- a new tracked thing -/
theorem Rep.new (R : Rep X σ s) (ha : s.heap.get? a = none) (hk : ∀ b o, s.heap.get? b = some o → h'.get? b = some o) (hb : IsBox X.B h' (σ.put a bx).mem a bx) :
    Rep X (σ.put a bx) { s with heap := h', toks := t } ∧ Ext X σ s (σ.put a bx) { s with heap := h', toks := t } := by
  have ne : ∀ b o, s.heap.get? b = some o → b ≠ a := fun b o e q => by rw [q, ha] at e; cases e
  have pm : ∀ b o, s.heap.get? b = some o → σ.mem b = none → (σ.put a bx).mem b = none := fun b o e m => by rw [St.put_mem, if_neg (ne b o e)]; exact m
  refine ⟨⟨fun b o e => hk b o (R.keep b o e), R.gens, R.os, fun c bc e => ?_, ?_⟩, ⟨fun b o e _ _ _ => hk b o e, pm, fun b o e => ⟨o, hk b o e⟩⟩⟩
  · rw [St.put_mem] at e
    split at e
    · rename_i q; subst q; cases e; exact ⟨(R.fresh ha).2, hb⟩
    · exact ⟨(R.mem c bc e).1, (R.mem c bc e).2.mono (fun b o e m _ => ⟨hk b o e, pm b o e m⟩) (hk c)⟩
  · refine R.env.mono (fun b o e m _ => ⟨hk b o e, pm b o e m⟩) (hk _) (fun c v ⟨o, e, d⟩ m => ⟨⟨o, hk _ _ e, d⟩, pm _ _ e m⟩) ?_ (fun _ _ e => e)
    obtain ⟨m, ⟨o', _, _, h1, _⟩, q, _⟩ := R.env
    exact pm _ _ h1 q

/-- a tracked thing is written -/
theorem Rep.upd (R : Rep X σ s) (ha : σ.mem a = some bx) (hk : ∀ b o, b ≠ a → s.heap.get? b = some o → h'.get? b = some o) (hb : IsBox X.B h' (σ.put a bx').mem a bx') :
    Rep X (σ.put a bx') { s with heap := h', toks := t } ∧ Ext X σ s (σ.put a bx') { s with heap := h', toks := t } := by
  have pm : ∀ b, σ.mem b = none → b ≠ a ∧ (σ.put a bx').mem b = none := fun b m => by
    have : b ≠ a := fun q => by rw [q, ha] at m; cases m
    exact ⟨this, by rw [St.put_mem, if_neg this]; exact m⟩
  have ks : ∀ b o, s.heap.get? b = some o → σ.mem b = none → isSeqObj o → h'.get? b = some o ∧ (σ.put a bx').mem b = none :=
    fun b o e m _ => ⟨hk b o (pm b m).1 e, (pm b m).2⟩
  refine ⟨⟨fun b o e => hk b o (fun q => ?_) (R.keep b o e), R.gens, R.os, fun c bc e => ?_, ?_⟩, ⟨fun b o e m _ _ => hk b o (pm b m).1 e, fun b o _ m => (pm b m).2, fun b o e => ?_⟩⟩
  · have := (R.mem a bx ha).1; rw [q, this] at e; cases e
  · rw [St.put_mem] at e
    split at e
    · rename_i q; subst q; cases e; exact ⟨(R.mem c bx ha).1, hb⟩
    · rename_i q
      exact ⟨(R.mem c bc e).1, (R.mem c bc e).2.mono ks (fun o e' => hk c o q e')⟩
  · obtain ⟨m, ⟨o', _, _, h1, _⟩, q, _⟩ := id R.env
    exact R.env.mono ks (fun o e => hk _ o (pm _ q).1 e) (fun c v ⟨o, e, d⟩ m => ⟨⟨o, hk _ _ (pm c m).1 e, d⟩, (pm c m).2⟩) (pm _ q).2 (fun _ _ e => e)
  · by_cases q : b = a
    · obtain ⟨o', e', _⟩ := hb.live; exact ⟨o', q ▸ e'⟩
    · exact ⟨o, hk b o q e⟩

def St.drop (σ : St) (a : Addr) : St := { σ with mem := fun c => if c = a then none else σ.mem c }
theorem St.drop_mem (σ : St) (a c : Addr) : (σ.drop a).mem c = if c = a then none else σ.mem c := rfl
theorem St.drop_put (σ : St) (a : Addr) (b : Box) (h : σ.mem a = none) : (σ.put a b).drop a = σ := by
  cases σ with
  | mk mem loc =>
    simp only [St.drop, St.put]
    congr 1
    funext c
    by_cases hc : c = a
    · subst hc; simp at h; simp [h]
    · simp [hc]

/-- less is known of the memory -/
theorem Rep.less (R : Rep X σ s) {σ' : St} (hm : ∀ a bx, σ'.mem a = some bx → σ.mem a = some bx) (hl : ∀ x V, σ'.loc x = some V → σ.loc x = some V) : Rep X σ' s := by
  have nn : ∀ b, σ.mem b = none → σ'.mem b = none := fun b m => by
    cases e : σ'.mem b with
    | none => rfl
    | some bx => rw [hm b bx e] at m; cases m
  refine ⟨R.keep, R.gens, R.os, fun a bx e => ⟨(R.mem a bx (hm a bx e)).1, (R.mem a bx (hm a bx e)).2.mono (fun b o e m _ => ⟨e, nn b m⟩) fun _ e => e⟩, ?_⟩
  exact R.env.mono (fun b o e m _ => ⟨e, nn b m⟩) (fun _ e => e) (fun c v e m => ⟨e, nn c m⟩) (let ⟨_, _, q, _⟩ := R.env; nn _ q) hl

theorem Ext.less (x : Ext X σ s σ' s') {σ'' : St} (hm : ∀ a bx, σ''.mem a = some bx → σ'.mem a = some bx) : Ext X σ s σ'' s' :=
  ⟨x.keep, fun b o e m => by
    cases q : σ''.mem b with
    | none => rfl
    | some bx => exact absurd ((x.mem b o e m).symm.trans (hm b bx q)) nofun, x.live⟩

theorem Rep.frozen (R : Rep X σ s) {vs : List Val} (h : σ.mem a = some (.list vs)) : RV s.heap (σ.drop a).mem (.ref a) (.lst vs) := by
  obtain ⟨items, n, e, r⟩ := R.isL h
  refine .lst e (by simp [St.drop_mem]) (r.mono fun b o e m _ => ⟨e, ?_⟩)
  rw [St.drop_mem]; split <;> trivial

/-- a name is bound -/
theorem Rep.setL (R : Rep X σ s) {m : Str → Option Value} {x : Str} {v : Value} {V : Val} (hm : s.heap.Ns X.f.L m)
    (hmm : ∀ y W, σ.loc y = some W → (y == ("__debug__" : Str)) = false ∧ ∃ v, RV s.heap σ.mem v W ∧
      ((X.env.kindOf y = some .local ∧ m y = some v) ∨ (∃ c, X.f.cells.lookup y = some c ∧ s.heap.IsCell c (some v) ∧ σ.mem c = none ∧
       (X.env.kindOf y = some .cell ∨ (X.env.kindOf y = some .free ∧ (y == ("__classdict__" : Str)) = false)))))
    (hk : X.env.kindOf x = some .local) (hd : (x == ("__debug__" : Str)) = false) (rv : RV s.heap σ.mem v V) (newL : X.B.h₁.get? X.f.L = none)
    (hn : h'.Ns X.f.L (fun y => if y = x then some v else m y)) (hs : Heap.SameBut X.f.L s.heap h') :
    Rep X (σ.set x V) { s with heap := h', toks := t } ∧ Ext X σ s (σ.set x V) { s with heap := h', toks := t } := by
  obtain ⟨m', hn', hL, hc, _⟩ := id R.env
  have kp : ∀ b o, b ≠ X.f.L → s.heap.get? b = some o → h'.get? b = some o := fun b o q e => hs.extBut b o q e
  have ks : ∀ b o, s.heap.get? b = some o → σ.mem b = none → isSeqObj o → h'.get? b = some o ∧ σ.mem b = none :=
    fun b o e m q => ⟨kp b o (R.locals_ne e (seq_no_dict q)) e, m⟩
  have kc : ∀ c v, s.heap.IsCell c v → h'.IsCell c v := fun c v ⟨o, e, d⟩ => ⟨o, kp _ _ (R.locals_ne e (fun es n q => by rw [d] at q; cases q)) e, d⟩
  refine ⟨⟨fun b o e => kp b o (fun q => by rw [q, newL] at e; cases e) (R.keep b o e), R.gens, R.os, fun a bx e => ⟨(R.mem a bx e).1, (R.mem a bx e).2.mono ks fun o e' => kp a o (fun q => ?_) e'⟩, ?_⟩,
    ⟨fun b o e _ q _ => kp b o q e, fun _ _ _ e => e, fun b o e => ?_⟩⟩
  · rw [q] at e; exact absurd (hL.symm.trans e) nofun
  · refine ⟨_, hn, hL, fun c hm' => ⟨(hc c hm').1, let ⟨v, hv⟩ := (hc c hm').2; ⟨v, kc c v hv⟩⟩, fun y W hy => ?_⟩
    rw [St.set_loc] at hy
    by_cases q : y = x
    · subst q
      rw [if_pos rfl] at hy; cases hy
      exact ⟨hd, v, rv.mono ks, .inl ⟨hk, by simp⟩⟩
    · rw [if_neg q] at hy
      obtain ⟨h1, u, ru, h2⟩ := hmm y W hy
      refine ⟨h1, u, ru.mono ks, ?_⟩
      rcases h2 with ⟨k1, k2⟩ | ⟨c, e1, e2, e3⟩
      · exact .inl ⟨k1, by simp [q, k2]⟩
      · exact .inr ⟨c, e1, kc _ _ e2, e3⟩
  · by_cases q : b = X.f.L
    · obtain ⟨o', _, _, e', _⟩ := hn; exact ⟨o', q ▸ e'⟩
    · exact ⟨o, kp b o q e⟩

theorem Rep.setC (R : Rep X σ s) {x : Str} {v : Value} {V : Val} {c : Addr} {v₀ : Option Value}
    (hk : X.env.kindOf x = some .cell) (hc : X.f.cells.lookup x = some c) (ho : c ∈ X.f.own) (inj : ∀ x y c, X.f.cells.lookup x = some c → X.f.cells.lookup y = some c → x = y)
    (hd : (x == ("__debug__" : Str)) = false) (rv : RV s.heap σ.mem v V) (newC : X.B.h₁.get? c = none)
    (h0 : s.heap.IsCell c v₀) (hn : h'.IsCell c (some v)) (hs : Heap.SameBut c s.heap h') :
    Rep X (σ.set x V) { s with heap := h', toks := t } ∧ Ext X σ s (σ.set x V) { s with heap := h', toks := t } := by
  obtain ⟨m, hm, hL, hcs, hl⟩ := id R.env
  obtain ⟨oc, hoc, hdc⟩ := h0
  have kp : ∀ b o, b ≠ c → s.heap.get? b = some o → h'.get? b = some o := fun b o q e => hs.extBut b o q e
  have cs : ∀ b o, s.heap.get? b = some o → isSeqObj o → b ≠ c := fun b o e q z => by rw [z, hoc] at e; cases e; exact seq_no_cell q _ hdc
  have ks : ∀ b o, s.heap.get? b = some o → σ.mem b = none → isSeqObj o → h'.get? b = some o ∧ σ.mem b = none := fun b o e m q => ⟨kp b o (cs b o e q) e, m⟩
  have hLc : X.f.L ≠ c := fun q => R.locals_ne hoc (fun es n z => by rw [hdc] at z; cases z) q.symm
  refine ⟨⟨fun b o e => kp b o (fun q => by rw [q, newC] at e; cases e) (R.keep b o e), R.gens, R.os, fun a bx e => ⟨(R.mem a bx e).1, (R.mem a bx e).2.mono ks fun o e' => kp a o (fun q => ?_) e'⟩, ?_⟩,
    ⟨fun b o e _ _ q => kp b o (fun z => q (z ▸ ho)) e, fun _ _ _ e => e, fun b o e => ?_⟩⟩
  · rw [q] at e; exact absurd ((hcs c (.inl ho)).1.symm.trans e) nofun
  · refine ⟨m, hm.at' fun o e => kp _ o hLc e, hL, fun d hd' => ⟨(hcs d hd').1, ?_⟩, fun y W hy => ?_⟩
    · by_cases q : d = c
      · subst q; exact ⟨_, hn⟩
      · obtain ⟨v', o', e', d'⟩ := (hcs d hd').2; exact ⟨v', o', kp _ _ q e', d'⟩
    · rw [St.set_loc] at hy
      by_cases q : y = x
      · subst q
        rw [if_pos rfl] at hy; cases hy
        exact ⟨hd, v, rv.mono ks, .inr ⟨c, hc, hn, (hcs c (.inl ho)).1, .inl hk⟩⟩
      · rw [if_neg q] at hy
        obtain ⟨h1, u, ru, h2⟩ := hl y W hy
        refine ⟨h1, u, ru.mono ks, ?_⟩
        rcases h2 with k | ⟨d, e1, ⟨o', e', d'⟩, e3⟩
        · exact .inl k
        · exact .inr ⟨d, e1, ⟨o', kp _ _ (fun z => q (inj _ _ _ e1 (z ▸ hc))) e', d'⟩, e3⟩
  · by_cases q : b = c
    · obtain ⟨o', e', _⟩ := hn; exact ⟨o', q ▸ e'⟩
    · exact ⟨o, kp b o q e⟩
end

/-! Triples -/
def Ta {α β : Type} (X : Cx) (rel : Heap → Mem → α → β → Prop) (t : Sem α) (σ : St) (s : Shared) (Q : β → St → Prop) : Prop :=
  wpAny X.M X.A t (fun a s' => ∃ b σ', rel s'.heap σ'.mem a b ∧ Rep X σ' s' ∧ Ext X σ s σ' s' ∧ Q b σ') (fun _ _ => False) s
def T {α β : Type} (X : Cx) (rel : Heap → Mem → α → β → Prop) (t : Sem α) (σ : St) (Q : β → St → Prop) : Prop := ∀ s, Rep X σ s → Ta X rel t σ s Q

section
variable {α β γ δ : Type} {X : Cx} {rel : Heap → Mem → α → β → Prop} {rel' : Heap → Mem → γ → δ → Prop} {σ : St} {s : Shared}

theorem Ta.bind {t : Sem α} {f : α → Sem γ} {P : β → St → Prop} {Q : δ → St → Prop} (h : Ta X rel t σ s P)
    (k : ∀ a b σ' s', rel s'.heap σ'.mem a b → Rep X σ' s' → Ext X σ s σ' s' → P b σ' → Ta X rel' (f a) σ' s' Q) : Ta X rel' (t >>= f) σ s Q := by
  refine wpAny_bind (wpAny_mono h (fun a s' hh => ?_) fun _ _ e => e)
  obtain ⟨b, σ', hr, R, x, hp⟩ := hh
  refine wpAny_mono (k a b σ' s' hr R x hp) (fun c s'' hh => ?_) fun _ _ e => e
  obtain ⟨d, σ'', hr', R', x', hq⟩ := hh
  exact ⟨d, σ'', hr', R', x.trans R x', hq⟩

theorem Ta.mono {t : Sem α} {P Q : β → St → Prop} (h : Ta X rel t σ s P) (k : ∀ b σ', P b σ' → Q b σ') : Ta X rel t σ s Q :=
  wpAny_mono h (fun _ _ ⟨b, σ', hr, R, x, hp⟩ => ⟨b, σ', hr, R, x, k b σ' hp⟩) fun _ _ e => e
theorem T.mono {t : Sem α} {P Q : β → St → Prop} (h : T X rel t σ P) (k : ∀ b σ', P b σ' → Q b σ') : T X rel t σ Q := fun s R => (h s R).mono k

theorem Ta.pure {a : α} {b : β} {Q : β → St → Prop} (R : Rep X σ s) (hr : rel s.heap σ.mem a b) (h : Q b σ) : Ta X rel (pure a) σ s Q :=
  wpAny_pure ⟨b, σ, hr, R, .refl, h⟩

/-- what a walked tree is worth where the state has moved on without a trace -/
theorem Ta.then {t : Sem α} {P : β → St → Prop} {σ' : St} {s' : Shared} (h : Ta X rel t σ' s' P) (R' : Rep X σ' s') (x : Ext X σ s σ' s') :
    wpAny X.M X.A t (fun a s'' => ∃ b σ'', rel s''.heap σ''.mem a b ∧ Rep X σ'' s'' ∧ Ext X σ s σ'' s'' ∧ P b σ'') (fun _ _ => False) s' :=
  wpAny_mono h (fun _ _ ⟨b, σ'', hr, R'', x'', hp⟩ => ⟨b, σ'', hr, R'', x.trans R' x'', hp⟩) fun _ _ e => e
end

inductive Fl where
  | next | brk | cont
  | ret (v : Val)

inductive RF (h : Heap) (mem : Mem) : Flow → Fl → Prop
  | next : RF h mem .next .next
  | brk : RF h mem .brk .brk
  | cont : RF h mem .cont .cont
  | ret {v : Value} {V : Val} : RV h mem v V → RF h mem (.ret v) (.ret V)

abbrev eqR {α : Type} : Heap → Mem → α → α → Prop := fun _ _ a b => a = b

abbrev AE (X : Cx) (e : Expr) (σ : St) (Q : Val → St → Prop) : Prop := T X RV (eval e X.env) σ Q
abbrev AT (X : Cx) (e : Expr) (σ : St) (Q : Bool → St → Prop) : Prop := T X (eqR (α := Bool)) (isTrue e X.env (eval e X.env)) σ Q
abbrev AX (X : Cx) (st : Stmt) (σ : St) (Q : Fl → St → Prop) : Prop := T X RF (exec st X.env) σ Q
abbrev AS (X : Cx) (ss : List Stmt) (σ : St) (Q : Fl → St → Prop) : Prop := T X RF (execs ss X.env) σ Q

end Mine
end
section
open PySem PySem.W PyProof.Rows PySem.Calls
namespace Mine
theorem sz {n : Nat} (h : n ≤ 16777216) : n ≤ sizeLine := Nat.le_trans h (by decide)

section
variable {X : Cx} {σ : St} {s : Shared} {n : Nat} {Q : Val → St → Prop}

theorem AE_int {i : Int} {k : Nat} {pos : Pos} (h : Q (.int i) σ) : AE X (.Constant (.int i) k pos) σ Q := fun s R => by
  have g := R.toks (t := s.toks + 1)
  exact wpAny_Constant_int ⟨_, σ, .int _ _, g.1, g.2, h⟩
theorem AE_none {k : Nat} {pos : Pos} (h : Q .none σ) : AE X (.Constant .none k pos) σ Q := fun _ R => wpAny_Constant_none ⟨_, σ, .none, R, .refl, h⟩
theorem AE_bool {b : Bool} {k : Nat} {pos : Pos} (h : Q (.bool b) σ) : AE X (.Constant (.bool b) k pos) σ Q := fun _ R => wpAny_Constant_bool ⟨_, σ, .bool b, R, .refl, h⟩
theorem AE_str {x : Str} {k : Nat} {pos : Pos} (h : Q (.str x) σ) : AE X (.Constant (.str x) k pos) σ Q := fun s R => by
  have g := R.toks (t := s.toks + 1)
  exact wpAny_Constant_str ⟨_, σ, .str _ _, g.1, g.2, h⟩

theorem load_name (ok : X.Ok n) (R : Rep X σ s) {x : Str} {V : Val} (hx : σ.loc x = some V) {E : Value → Shared → Prop} {P : Value → Shared → Prop} (h : ∀ v, RV s.heap σ.mem v V → P v s) :
    wpAny X.M X.A (loadName X.env x) P E s := by
  obtain ⟨m, hn, _, _, hl⟩ := R.env
  obtain ⟨_, v, rv, hh⟩ := hl x V hx
  rcases hh with ⟨hk, hm⟩ | ⟨c, hc, hv, _, hk | ⟨hk, hcd⟩⟩
  · exact wpAny_loadName_local ok.kind hk hn hm (h v rv)
  · exact wpAny_loadName_cell ok.kind hk hc hv (h v rv)
  · exact wpAny_loadName_free ok.kind hk hc hv (h v rv) hcd

theorem AE_name (ok : X.Ok n) {x : Str} {pos : Pos} {V : Val} (hx : σ.loc x = some V) (h : Q V σ) : AE X (.Name x pos) σ Q := fun s R => by
  have hd : (x == ("__debug__" : Str)) = false := by
    obtain ⟨m, hn, _, _, hl⟩ := R.env
    exact (hl x V hx).1
  exact wpAny_Name (load_name ok R hx fun v rv => ⟨V, σ, rv, R, .refl, h⟩) hd

/-! operators -/
def Op2 (X : Cx) (op : Operator) (a b : Val) (σ : St) (Q : Val → St → Prop) : Prop :=
  ∀ s va vb, Rep X σ s → RV s.heap σ.mem va a → RV s.heap σ.mem vb b → Ta X RV (binaryOp op va vb) σ s Q
def Iop2 (X : Cx) (op : Operator) (a b : Val) (σ : St) (Q : Val → St → Prop) : Prop :=
  ∀ s va vb, Rep X σ s → RV s.heap σ.mem va a → RV s.heap σ.mem vb b → Ta X RV (inplaceOp op va vb) σ s Q
def Cmp2 (X : Cx) (op : CmpOp) (a b : Val) (σ : St) (Q : Bool → St → Prop) : Prop :=
  ∀ s va vb, Rep X σ s → RV s.heap σ.mem va a → RV s.heap σ.mem vb b → Ta X RV (compareOp op va vb) σ s (fun V σ' => ∃ b, V = .bool b ∧ Q b σ')

theorem AE_bin {l r : Expr} {op : Operator} {pos : Pos} (h : AE X l σ (fun a σ1 => AE X r σ1 (fun b σ2 => Op2 X op a b σ2 Q))) : AE X (.BinOp l op r pos) σ Q := fun s R => by
  refine wpAny_BinOp (wpAny_mono (h s R) ?_ fun _ _ e => e)
  rintro va s1 ⟨a, σ1, ra, R1, x1, hk⟩
  refine wpAny_mono (hk s1 R1) ?_ fun _ _ e => e
  rintro vb s2 ⟨b, σ2, rb, R2, x2, hk2⟩
  exact (hk2 s2 va vb R2 (x2.rv R1 ra) rb).then R2 (x1.trans R1 x2)

theorem RV.int_inv {h : Heap} {mem : Mem} {v : Value} {i : Int} (r : RV h mem v (.int i)) : ∃ t, v = .int i t := by cases r; exact ⟨_, rfl⟩
theorem RV.bool_inv {h : Heap} {mem : Mem} {v : Value} {b : Bool} (r : RV h mem v (.bool b)) : v = .bool b := by cases r; rfl
theorem RV.none_inv {h : Heap} {mem : Mem} {v : Value} (r : RV h mem v .none) : v = .none := by cases r; rfl

section
variable {i j : Int}
theorem toksQ {V : Val} (R : Rep X σ s) {k : Nat} {v : Value} (rv : RV s.heap σ.mem v V) (h : Q V σ) : ∃ b σ', RV ({ s with toks := k } : Shared).heap σ'.mem v b ∧ Rep X σ' { s with toks := k } ∧ Ext X σ s σ' { s with toks := k } ∧ Q b σ' :=
  ⟨V, σ, rv, (R.toks (t := k)).1, (R.toks (t := k)).2, h⟩

theorem Op_add (h : Q (.int (i + j)) σ) : Op2 X .Add (.int i) (.int j) σ Q := fun s va vb R ra rb => by
  obtain ⟨t, rfl⟩ := ra.int_inv; obtain ⟨u, rfl⟩ := rb.int_inv
  exact PyProof.Rows.add_int (toksQ R (.int _ _) h)
theorem Op_sub (h : Q (.int (i - j)) σ) : Op2 X .Sub (.int i) (.int j) σ Q := fun s va vb R ra rb => by
  obtain ⟨t, rfl⟩ := ra.int_inv; obtain ⟨u, rfl⟩ := rb.int_inv
  exact PyProof.Rows.sub_int (toksQ R (.int _ _) h)
theorem Op_mul (hm : IntMulOk i j) (h : Q (.int (i * j)) σ) : Op2 X .Mult (.int i) (.int j) σ Q := fun s va vb R ra rb => by
  obtain ⟨t, rfl⟩ := ra.int_inv; obtain ⟨u, rfl⟩ := rb.int_inv
  exact PyProof.Rows.mul_int (toksQ R (.int _ _) h) hm
theorem Op_mod (hj : j ≠ 0) (h : Q (.int (i.fmod j)) σ) : Op2 X .Mod (.int i) (.int j) σ Q := fun s va vb R ra rb => by
  obtain ⟨t, rfl⟩ := ra.int_inv; obtain ⟨u, rfl⟩ := rb.int_inv
  exact PyProof.Rows.mod_int' hj (toksQ R (.int _ _) h)
theorem Op_div (hj : j ≠ 0) (hp : Builtin.divisionGoesByPylong i j = false) (h : Q (.int (i.fdiv j)) σ) : Op2 X .FloorDiv (.int i) (.int j) σ Q := fun s va vb R ra rb => by
  obtain ⟨t, rfl⟩ := ra.int_inv; obtain ⟨u, rfl⟩ := rb.int_inv
  exact PyProof.Rows.floordiv_int hj (toksQ R (.int _ _) h) (.inl hp)
theorem Op_pow (hj : 0 ≤ j) (hj2 : j ≤ 1000000) (hi : i.natAbs < 2 ^ 64) (h : Q (.int (i ^ j.toNat)) σ) : Op2 X .Pow (.int i) (.int j) σ Q := fun s va vb R ra rb => by
  obtain ⟨t, rfl⟩ := ra.int_inv; obtain ⟨u, rfl⟩ := rb.int_inv
  exact PyProof.Rows.pow_int_small hj hj2 hi (toksQ R (.int _ _) h)
theorem Op_rshift (hj : 0 ≤ j) (h : Q (.int (i.fdiv (2 ^ j.toNat))) σ) : Op2 X .RShift (.int i) (.int j) σ Q := fun s va vb R ra rb => by
  obtain ⟨t, rfl⟩ := ra.int_inv; obtain ⟨u, rfl⟩ := rb.int_inv
  exact PyProof.Rows.rshift_int hj (toksQ R (.int _ _) h)
theorem Op_and (h : Q (.int (Builtin.bitAnd i j)) σ) : Op2 X .BitAnd (.int i) (.int j) σ Q := fun s va vb R ra rb => by
  obtain ⟨t, rfl⟩ := ra.int_inv; obtain ⟨u, rfl⟩ := rb.int_inv
  exact PyProof.Rows.and_int (toksQ R (.int _ _) h)
theorem Iop_add (h : Q (.int (i + j)) σ) : Iop2 X .Add (.int i) (.int j) σ Q := fun s va vb R ra rb => by
  obtain ⟨t, rfl⟩ := ra.int_inv; obtain ⟨u, rfl⟩ := rb.int_inv
  exact PyProof.Rows.iadd_int (toksQ R (.int _ _) h)
theorem Iop_sub (h : Q (.int (i - j)) σ) : Iop2 X .Sub (.int i) (.int j) σ Q := fun s va vb R ra rb => by
  obtain ⟨t, rfl⟩ := ra.int_inv; obtain ⟨u, rfl⟩ := rb.int_inv
  exact PyProof.Rows.isub_int (toksQ R (.int _ _) h)
end

/-! comparisons of ints, of None -/
section
variable {i j : Int} {P : Bool → St → Prop}
theorem boolQ (R : Rep X σ s) {b : Bool} (h : P b σ) : ∃ (V : Val) (σ' : St), RV s.heap σ'.mem (.bool b) V ∧ Rep X σ' s ∧ Ext X σ s σ' s ∧ ∃ c, V = .bool c ∧ P c σ' :=
  ⟨_, σ, .bool b, R, .refl, b, rfl, h⟩
theorem Cmp_lt (h : P (decide (i < j)) σ) : Cmp2 X .Lt (.int i) (.int j) σ P := fun s va vb R ra rb => by
  obtain ⟨t, rfl⟩ := ra.int_inv; obtain ⟨u, rfl⟩ := rb.int_inv
  exact PyProof.Rows.lt_int (boolQ R h)
theorem Cmp_gt (h : P (decide (j < i)) σ) : Cmp2 X .Gt (.int i) (.int j) σ P := fun s va vb R ra rb => by
  obtain ⟨t, rfl⟩ := ra.int_inv; obtain ⟨u, rfl⟩ := rb.int_inv
  exact PyProof.Rows.gt_int (boolQ R h)
theorem Cmp_ge (h : P (decide (j ≤ i)) σ) : Cmp2 X .GtE (.int i) (.int j) σ P := fun s va vb R ra rb => by
  obtain ⟨t, rfl⟩ := ra.int_inv; obtain ⟨u, rfl⟩ := rb.int_inv
  exact PyProof.Rows.ge_int (boolQ R h)
theorem Cmp_le (h : P (decide (i ≤ j)) σ) : Cmp2 X .LtE (.int i) (.int j) σ P := fun s va vb R ra rb => by
  obtain ⟨t, rfl⟩ := ra.int_inv; obtain ⟨u, rfl⟩ := rb.int_inv
  exact PyProof.Rows.le_int (boolQ R h)
theorem Cmp_eq (h : P (decide (i = j)) σ) : Cmp2 X .Eq (.int i) (.int j) σ P := fun s va vb R ra rb => by
  obtain ⟨t, rfl⟩ := ra.int_inv; obtain ⟨u, rfl⟩ := rb.int_inv
  refine PyProof.Rows.eq_int (boolQ R ?_)
  rwa [show (i == j) = decide (i = j) from by by_cases h : i = j <;> simp [h]]
theorem Cmp_ne (h : P (decide (i ≠ j)) σ) : Cmp2 X .NotEq (.int i) (.int j) σ P := fun s va vb R ra rb => by
  obtain ⟨t, rfl⟩ := ra.int_inv; obtain ⟨u, rfl⟩ := rb.int_inv
  refine PyProof.Rows.ne_int (boolQ R ?_)
  rwa [show (i != j) = decide (i ≠ j) from by by_cases h : i = j <;> simp [h]]
def Val.isNone : Val → Bool
  | .none => true
  | _ => false
theorem RV.isNone {h : Heap} {mem : Mem} {v : Value} {V : Val} (r : RV h mem v V) : (v == Value.none) = V.isNone := by cases r <;> rfl
theorem Cmp_is {V : Val} (h : P V.isNone σ) : Cmp2 X .Is V .none σ P := fun s va vb R ra rb => by
  obtain rfl := rb.none_inv
  refine is_none (boolQ R ?_)
  rwa [ra.isNone]
theorem Cmp_isnot {V : Val} (h : P (!V.isNone) σ) : Cmp2 X .IsNot V .none σ P := fun s va vb R ra rb => by
  obtain rfl := rb.none_inv
  refine isNot_none (boolQ R ?_)
  rwa [ra.isNone]
end

theorem AE_cmp {l r : Expr} {op : CmpOp} {pos : Pos} (hm : behindInMarks op r = false) (h : AE X l σ (fun a σ1 => AE X r σ1 (fun b σ2 => Cmp2 X op a b σ2 (fun b σ3 => Q (.bool b) σ3)))) : AE X (.Compare l [op] [r] pos) σ Q := fun s R => by
  refine wpAny_Compare1 (wpAny_mono (h s R) ?_ fun _ _ e => e) hm
  rintro va s1 ⟨a, σ1, ra, R1, x1, hk⟩
  refine wpAny_mono (hk s1 R1) ?_ fun _ _ e => e
  rintro vb s2 ⟨b, σ2, rb, R2, x2, hk2⟩
  refine wpAny_mono ((hk2 s2 va vb R2 (x2.rv R1 ra) rb).then R2 (x1.trans R1 x2)) ?_ fun _ _ e => e
  rintro v s3 ⟨V, σ3, rv, R3, x3, c, rfl, q⟩
  exact ⟨_, σ3, rv, R3, x3, q⟩

section
variable {P : Bool → St → Prop}
theorem AT_cmp {l r : Expr} {op : CmpOp} {pos : Pos} (hm : behindInMarks op r = false) (h : AE X l σ (fun a σ1 => AE X r σ1 (fun b σ2 => Cmp2 X op a b σ2 P))) : AT X (.Compare l [op] [r] pos) σ P := fun s R => by
  refine wpAny_isTrue_Compare1 (wpAny_mono (h s R) ?_ fun _ _ e => e) hm
  rintro va s1 ⟨a, σ1, ra, R1, x1, hk⟩
  refine wpAny_mono (hk s1 R1) ?_ fun _ _ e => e
  rintro vb s2 ⟨b, σ2, rb, R2, x2, hk2⟩
  refine wpAny_mono ((hk2 s2 va vb R2 (x2.rv R1 ra) rb).then R2 (x1.trans R1 x2)) ?_ fun _ _ e => e
  rintro v s3 ⟨V, σ3, rv, R3, x3, c, rfl, q⟩
  obtain rfl := rv.bool_inv
  exact wpAny_truthy_bool ⟨c, σ3, rfl, R3, x3, q⟩

/-- a chain of two -/
theorem AT_chain {l r r' : Expr} {op op' : CmpOp} {pos : Pos} (hm : lastMarks [op, op'] [r, r'] = false)
    (h : AE X l σ (fun a σ1 => AE X r σ1 (fun b σ2 => Cmp2 X op a b σ2 (fun t σ3 => (t = true → AE X r' σ3 (fun c σ4 => Cmp2 X op' b c σ4 P)) ∧ (t = false → P false σ3))))) :
    AT X (.Compare l [op, op'] [r, r'] pos) σ P := fun s R => by
  refine isTrue_chain (wpAny_mono (h s R) ?_ fun _ _ e => e) hm
  rintro va s1 ⟨a, σ1, ra, R1, x1, hk⟩
  refine test_link (wpAny_mono (hk s1 R1) ?_ fun _ _ e => e)
  rintro vb s2 ⟨b, σ2, rb, R2, x2, hk2⟩
  refine wpAny_mono ((hk2 s2 va vb R2 (x2.rv R1 ra) rb)) ?_ fun _ _ e => e
  rintro v s3 ⟨V, σ3, rv, R3, x3, c, rfl, q⟩
  obtain rfl := rv.bool_inv
  have x03 := (x1.trans R1 x2).trans R2 x3
  refine wpAny_truthy_bool ?_
  cases c with
  | false => exact ⟨false, σ3, rfl, R3, x03, q.2 rfl⟩
  | true =>
    refine test_last (wpAny_mono (q.1 rfl s3 R3) ?_ fun _ _ e => e)
    rintro vc s4 ⟨c, σ4, rc, R4, x4, hk4⟩
    refine wpAny_mono ((hk4 s4 vb vc R4 (x4.rv R3 (x3.rv R2 rb)) rc).then R4 (x03.trans R3 x4)) ?_ fun _ _ e => e
    rintro v s5 ⟨V, σ5, rv, R5, x5, d, rfl, q⟩
    obtain rfl := rv.bool_inv
    exact wpAny_truthy_bool ⟨d, σ5, rfl, R5, x5, q⟩

theorem AT_not {e : Expr} {pos : Pos} (h : AT X e σ (fun b σ1 => P (!b) σ1)) : AT X (.UnaryOp .Not e pos) σ P := fun s R => by
  refine wpAny_isTrue_Not (wpAny_mono (h s R) ?_ fun _ _ e => e)
  rintro b s1 ⟨c, σ1, rfl, R1, x1, q⟩
  exact ⟨_, σ1, rfl, R1, x1, q⟩
theorem AT_and {x y : Expr} {pos : Pos} (h : AT X x σ (fun b σ1 => (b = true → AT X y σ1 P) ∧ (b = false → P false σ1))) : AT X (.BoolOp .And [x, y] pos) σ P := fun s R => by
  refine wpAny_isTrue_BoolOp (wpAny_allTrue_And_cons (wpAny_mono (h s R) ?_ fun _ _ e => e))
  rintro b s1 ⟨c, σ1, rfl, R1, x1, q⟩
  cases b with
  | false => exact ⟨false, σ1, rfl, R1, x1, q.2 rfl⟩
  | true =>
    refine wpAny_allTrue_And_cons (wpAny_mono ((q.1 rfl s1 R1).then R1 x1) ?_ fun _ _ e => e)
    rintro b s2 ⟨c, σ2, rfl, R2, x2, q⟩
    cases b with
    | false => exact ⟨false, σ2, rfl, R2, x2, q⟩
    | true => exact wpAny_allTrue_And_nil ⟨true, σ2, rfl, R2, x2, q⟩
theorem AT_or {x y : Expr} {pos : Pos} (h : AT X x σ (fun b σ1 => (b = true → P true σ1) ∧ (b = false → AT X y σ1 P))) : AT X (.BoolOp .Or [x, y] pos) σ P := fun s R => by
  refine wpAny_isTrue_BoolOp (wpAny_allTrue_Or_cons (wpAny_mono (h s R) ?_ fun _ _ e => e))
  rintro b s1 ⟨c, σ1, rfl, R1, x1, q⟩
  cases b with
  | true => exact ⟨true, σ1, rfl, R1, x1, q.1 rfl⟩
  | false =>
    refine wpAny_allTrue_Or_cons (wpAny_mono ((q.2 rfl s1 R1).then R1 x1) ?_ fun _ _ e => e)
    rintro b s2 ⟨c, σ2, rfl, R2, x2, q⟩
    cases b with
    | true => exact ⟨true, σ2, rfl, R2, x2, q⟩
    | false => exact wpAny_allTrue_Or_nil ⟨false, σ2, rfl, R2, x2, q⟩

/-- a plain value's truth -/
def Tru (X : Cx) (a : Val) (σ : St) (P : Bool → St → Prop) : Prop := ∀ s va, Rep X σ s → RV s.heap σ.mem va a → Ta X (eqR (α := Bool)) (truthy va) σ s P
theorem AT_val {e : Expr} (h : AE X e σ (fun a σ1 => Tru X a σ1 P))
    (he : ∀ whole, PySem.isTrue e X.env whole = (do let v ← whole; standAt e.pos; holding [v] (truthy v))) : AT X e σ P := fun s R => by
  refine wpAny_isTrue_value (wpAny_mono (h s R) ?_ fun _ _ e => e) (he _)
  rintro va s1 ⟨a, σ1, ra, R1, x1, hk⟩
  exact (hk s1 va R1 ra).then R1 x1
theorem Tru_bool {b : Bool} (h : P b σ) : Tru X (.bool b) σ P := fun s va R ra => by
  obtain rfl := ra.bool_inv
  exact wpAny_truthy_bool ⟨b, σ, rfl, R, .refl, h⟩
end

theorem AE_neg {e : Expr} {pos : Pos} (h : AE X e σ (fun a σ1 => ∃ i, a = .int i ∧ Q (.int (-i)) σ1)) : AE X (.UnaryOp .USub e pos) σ Q := fun s R => by
  refine wpAny_UnaryOp (wpAny_mono (h s R) ?_ fun _ _ e => e)
  rintro va s1 ⟨a, σ1, ra, R1, x1, i, rfl, q⟩
  obtain ⟨t, rfl⟩ := ra.int_inv
  refine P.neg_int ?_
  exact ⟨_, σ1, .int _ _, (R1.toks (t := _)).1, x1.trans R1 (R1.toks (t := _)).2, q⟩

theorem AE_ifexp {t b o : Expr} {pos : Pos} (h : AT X t σ (fun c σ1 => (c = true → AE X b σ1 Q) ∧ (c = false → AE X o σ1 Q))) : AE X (.IfExp t b o pos) σ Q := fun s R => by
  refine wpAny_IfExp (wpAny_mono (h s R) ?_ fun _ _ e => e)
  rintro c s1 ⟨d, σ1, rfl, R1, x1, q⟩
  cases c with
  | true => exact (q.1 rfl s1 R1).then R1 x1
  | false => exact (q.2 rfl s1 R1).then R1 x1
end

/-! several expressions -/
def AEs (X : Cx) (pos : Pos) (es : List Expr) (σ : St) (Q : List Val → St → Prop) : Prop := T X RVs (spliced (backTo pos (starEach es X.env))) σ Q
section
variable {X : Cx} {σ : St} {n : Nat} {pos : Pos}
theorem AEs_nil {Q : List Val → St → Prop} (h : Q [] σ) : AEs X pos [] σ Q := fun _ R => wpAny_items_nil ⟨_, σ, .nil, R, .refl, h⟩
theorem AEs_cons {e : Expr} {rest : List Expr} {Q : List Val → St → Prop} (he : starEach (e :: rest) X.env = (false, eval e X.env) :: starEach rest X.env)
    (h : AE X e σ (fun V σ1 => AEs X pos rest σ1 (fun Vs σ2 => Q (V :: Vs) σ2))) : AEs X pos (e :: rest) σ Q := fun s R => by
  refine wpAny_items_cons (wpAny_mono (h s R) ?_ fun _ _ e => e) he
  rintro v s1 ⟨V, σ1, rv, R1, x1, hk⟩
  refine wpAny_mono (hk s1 R1) ?_ fun _ _ e => e
  rintro vs s2 ⟨Vs, σ2, rvs, R2, x2, q⟩
  exact ⟨_, σ2, .cons (x2.rv R1 rv) rvs, R2, x1.trans R1 x2, q⟩

theorem AE_tuple {es : List Expr} {k : Nat} {Q : Val → St → Prop} (h : AEs X pos es σ (fun Vs σ1 => Vs.length ≤ 16777216 ∧ Q (.tup Vs) σ1)) : AE X (.Tuple es k pos) σ Q := fun s R => by
  refine wpAny_Tuple (wpAny_mono (h s R) ?_ fun _ _ e => e)
  rintro vs s1 ⟨Vs, σ1, rvs, R1, x1, hl, q⟩
  refine ⟨by rw [rvs.length]; exact hl, ?_⟩
  have fr : s1.heap.get? s1.heap.objs.size = none := by
    cases e : s1.heap.get? s1.heap.objs.size with
    | none => rfl
    | some o => exact absurd (Heap.lt_size e) (Nat.lt_irrefl _)
  have g := R1.grow (h' := s1.heap.push { cls := .type "tuple", data := .seq vs.toArray }) (t := s1.toks) fun b o e => Heap.get?_push_of_some _ e
  exact ⟨_, σ1, .tup (n := 0) (Heap.get?_push_size _ rfl) (R1.fresh fr).1 (g.2.rvs R1 rvs), g.1, x1.trans R1 g.2, q⟩
end

/-! new lists: tracked, then frozen -/
def AN (X : Cx) (e : Expr) (σ : St) (Q : Val → St → Prop) : Prop := T X RV (eval e X.env) σ Q

theorem heap_top_none (h : Heap) : h.get? h.objs.size = none := by
  cases e : h.get? h.objs.size with
  | none => rfl
  | some o => exact absurd (Heap.lt_size e) (Nat.lt_irrefl _)

/-- a list that was just made at a: how the states go on, tracked -/
theorem made_tracked {X : Cx} {σ : St} {s : Shared} {h' : Heap} {t : Nat} {a : Addr} {items : List Value} {k : Nat} {Vs : List Val} (R : Rep X σ s) (ha : s.heap.get? a = none)
    (hk : ∀ b o, s.heap.get? b = some o → h'.get? b = some o) (hl : IsL h' a items.toArray k) (rvs : RVs s.heap σ.mem items Vs) :
    σ.mem a = none ∧ Rep X (σ.put a (.list Vs)) { s with heap := h', toks := t } ∧ Ext X σ s (σ.put a (.list Vs)) { s with heap := h', toks := t } := by
  refine ⟨(R.fresh ha).1, R.new ha hk ⟨items, k, hl, rvs.mono fun b o e m _ => ⟨hk b o e, ?_⟩⟩⟩
  rw [St.put_mem, if_neg (fun q => by rw [q, ha] at e; cases e)]; exact m
theorem made_frozen {X : Cx} {σ : St} {s : Shared} {h' : Heap} {t : Nat} {a : Addr} {items : List Value} {k : Nat} {Vs : List Val} (R : Rep X σ s) (ha : s.heap.get? a = none)
    (hk : ∀ b o, s.heap.get? b = some o → h'.get? b = some o) (hl : IsL h' a items.toArray k) (rvs : RVs s.heap σ.mem items Vs) :
    RV h' σ.mem (.ref a) (.lst Vs) ∧ Rep X σ { s with heap := h', toks := t } ∧ Ext X σ s σ { s with heap := h', toks := t } := by
  have g := R.grow (t := t) hk
  exact ⟨.lst hl (R.fresh ha).1 (g.2.rvs R rvs), g⟩

/-- the two ways to take a new list: kept to be written, or not -/
inductive Made (σ : St) (Vs : List Val) (Q : Val → St → Prop) : Prop
  | frozen (h : Q (.lst Vs) σ) : Made σ Vs Q
  | tracked (h : ∀ a, σ.mem a = none → Q (.ref a) (σ.put a (.list Vs))) : Made σ Vs Q

theorem Made.take {X : Cx} {σ : St} {s : Shared} {h' : Heap} {t : Nat} {a : Addr} {items : List Value} {k : Nat} {Vs : List Val} {Q : Val → St → Prop} (M : Made σ Vs Q) (R : Rep X σ s) (ha : s.heap.get? a = none)
    (hk : ∀ b o, s.heap.get? b = some o → h'.get? b = some o) (hl : IsL h' a items.toArray k) (rvs : RVs s.heap σ.mem items Vs) :
    ∃ V σ', RV h' σ'.mem (.ref a) V ∧ Rep X σ' { s with heap := h', toks := t } ∧ Ext X σ s σ' { s with heap := h', toks := t } ∧ Q V σ' := by
  cases M with
  | frozen h => obtain ⟨r, g⟩ := made_frozen (t := t) R ha hk hl rvs; exact ⟨_, σ, r, g.1, g.2, h⟩
  | tracked h => obtain ⟨m, g⟩ := made_tracked (t := t) R ha hk hl rvs; exact ⟨_, _, .ref a, g.1, g.2, h a m⟩

section
variable {X : Cx} {σ : St} {n : Nat} {pos : Pos} {Q : Val → St → Prop}
theorem AE_list {es : List Expr} (h : AEs X pos es σ (fun Vs σ1 => Vs.length ≤ 16777216 ∧ Made σ1 Vs Q)) : AE X (.List es pos) σ Q := fun s R => by
  refine wpAny_List (wpAny_mono (h s R) ?_ fun _ _ e => e)
  rintro vs s1 ⟨Vs, σ1, rvs, R1, x1, hl, q⟩
  refine ⟨by rw [rvs.length]; exact hl, ?_⟩
  obtain ⟨V, σ', r, R', x', q'⟩ := q.take (t := s1.toks) R1 (heap_top_none _) (fun b o e => Heap.get?_push_of_some _ e) (Heap.get?_push_size (o := { cls := .type "list", data := .seq vs.toArray }) _ rfl) rvs
  exact ⟨V, σ', r, R', x1.trans R1 x', q'⟩
end

/-! lists, seen through -/
def SeqOf (σ : St) (V : Val) (vs : List Val) : Prop := V = .lst vs ∨ ∃ a, V = .ref a ∧ σ.mem a = some (.list vs)
theorem SeqOf.lst {σ : St} {vs : List Val} : SeqOf σ (.lst vs) vs := .inl rfl
theorem SeqOf.ref {σ : St} {a : Addr} {vs : List Val} (h : σ.mem a = some (.list vs)) : SeqOf σ (.ref a) vs := .inr ⟨a, rfl, h⟩
theorem SeqOf.open {X : Cx} {σ : St} {s : Shared} {V : Val} {vs : List Val} (q : SeqOf σ V vs) (R : Rep X σ s) {v : Value} (r : RV s.heap σ.mem v V) :
    ∃ a items k, v = .ref a ∧ IsL s.heap a (List.toArray items) k ∧ RVs s.heap σ.mem items vs := by
  rcases q with rfl | ⟨a, rfl, h⟩
  · cases r with
    | lst e m r => exact ⟨_, _, _, rfl, e, r⟩
  · cases r with
    | ref a => obtain ⟨items, k, e, r⟩ := R.isL h; exact ⟨a, items, k, rfl, e, r⟩
theorem RV.tup_inv {h : Heap} {mem : Mem} {v : Value} {vs : List Val} (r : RV h mem v (.tup vs)) : ∃ a items k, v = .ref a ∧ IsT h a (List.toArray items) k ∧ mem a = Option.none ∧ RVs h mem items vs := by
  cases r with
  | tup e m r => exact ⟨_, _, _, rfl, e, m, r⟩

section
variable {X : Cx} {σ : St} {n : Nat} {pos : Pos} {Q : Val → St → Prop}

theorem Op_addList {A B : Val} {as bs : List Val} (ha : SeqOf σ A as) (hb : SeqOf σ B bs) (hl : as.length + bs.length ≤ 16777216) (h : Made σ (as ++ bs) Q) : Op2 X .Add A B σ Q := fun s va vb R ra rb => by
  obtain ⟨a, ia, ka, rfl, ea, rva⟩ := ha.open R ra
  obtain ⟨b, ib, kb, rfl, eb, rvb⟩ := hb.open R rb
  refine P.add_list ea eb ?_ (sz (by simpa [rva.length, rvb.length] using hl))
  exact h.take (t := s.toks) R (heap_top_none _) (fun b o e => Heap.get?_push_of_some _ e) (items := ia ++ ib) (k := 0)
    (by simpa using Heap.get?_push_size (o := { cls := .type "list", data := .seq (ia.toArray ++ ib.toArray) }) s.heap rfl) (rva.append rvb)

/-! subscripts -/
theorem AE_sub {v i : Expr} (hs : ∀ o x, subscripted i false o x = operate [o, x] (getItem o x))
    (h : AE X v σ (fun a σ1 => AE X i σ1 (fun b σ2 => ∃ k V, b = .int k ∧
      ((∃ vs, SeqOf σ2 a vs ∧ ((0 ≤ k ∧ k < 2 ^ 63 ∧ vs[k.toNat]? = some V) ∨ (k < 0 ∧ -(2 ^ 63) ≤ k ∧ -(vs.length : Int) ≤ k ∧ vs[(k + vs.length).toNat]? = some V))) ∨
       (∃ vs j, a = .tup vs ∧ -(2 ^ 63) ≤ k ∧ k < 2 ^ 63 ∧ seqIndex? k vs.length = some j ∧ vs[j]? = some V)) ∧ Q V σ2))) : AE X (.Subscript v i pos) σ Q := fun s R => by
  refine Subscript_ (wpAny_mono (h s R) ?_ fun _ _ e => e)
  rintro va s1 ⟨a, σ1, ra, R1, x1, hk⟩
  refine wpAny_mono (hk s1 R1) ?_ fun _ _ e => e
  rintro vb s2 ⟨b, σ2, rb, R2, x2, k, V, rfl, hh, q⟩
  obtain ⟨t, rfl⟩ := rb.int_inv
  have ra2 := x2.rv R1 ra
  have x12 := x1.trans R1 x2
  rcases hh with ⟨vs, hsq, hh⟩ | ⟨vs, j, rfl, h1, h2, h3, h4⟩
  · obtain ⟨a, ia, ka, rfl, ea, rva⟩ := hsq.open R2 ra2
    rcases hh with ⟨h0, h1, h2⟩ | ⟨h0, h1, h2, h3⟩
    · obtain ⟨v, hv, rv⟩ := rva.get h2
      exact tail_any (PySem.IsL.isList ea).typeIs slot_list_getitem.lookup (wpAny_getItem_list (PySem.IsL.isList ea) h0 h1 (by simpa using hv) ⟨V, σ2, rv, R2, x12, q⟩) (hs _ _)
    · obtain ⟨v, hv, rv⟩ := rva.get h3
      exact tail_any (PySem.IsL.isList ea).typeIs slot_list_getitem.lookup (wpAny_getItem_list_neg (PySem.IsL.isList ea) h0 (by simpa [rva.length] using h2) h1 (by simpa [rva.length] using hv) ⟨V, σ2, rv, R2, x12, q⟩) (hs _ _)
  · obtain ⟨a, ia, ka, rfl, ea, _, rva⟩ := ra2.tup_inv
    obtain ⟨v, hv, rv⟩ := rva.get h4
    exact tail_any (T := "tuple") ⟨_, ea, rfl⟩ F.slot_tuple_getitem.lookup (P.getItem_tuple ea h1 h2 (by simpa [rva.length] using h3) (by simpa using hv) ⟨V, σ2, rv, R2, x12, q⟩) (hs _ _)
end

end Mine
end
section
open PySem PySem.W PyProof.Rows PySem.Calls
namespace Mine

/-! stores -/
abbrev trueR {α β : Type} : Heap → Mem → α → β → Prop := fun _ _ _ _ => True
def AG (X : Cx) (t : Expr) (V : Val) (σ : St) (Q : St → Prop) : Prop :=
  ∀ s v, Rep X σ s → RV s.heap σ.mem v V → Ta X (trueR (α := Unit) (β := Unit)) (assign t X.env v) σ s (fun _ σ' => Q σ')

section
variable {X : Cx} {σ : St} {n : Nat}

theorem store_local (ok : X.Ok n) {x : Str} {V : Val} {v : Value} {s : Shared} {Q : St → Prop} (hk : X.env.kindOf x = some .local) (hd : (x == ("__debug__" : Str)) = false)
    (R : Rep X σ s) (rv : RV s.heap σ.mem v V) (h : Q (σ.set x V)) : Ta X (trueR (α := Unit) (β := Unit)) (storeName X.env x v) σ s (fun _ σ' => Q σ') := by
  obtain ⟨m, hn, hL, hc, hl⟩ := id R.env
  refine wpAny_storeName_local hk hn (fun h' hn' hs' => ?_) (by show (X.sc.kind == .class || (X.sc.kind == .module && _)) = false; rw [ok.kind]; rfl)
  have g := R.setL (t := s.toks + 1) hn hl hk hd rv ok.newL hn' hs'
  exact ⟨(), _, trivial, g.1, g.2, h⟩

theorem store_cell (ok : X.Ok n) {x : Str} {V : Val} {v : Value} {s : Shared} {Q : St → Prop} {c : Addr} (hk : X.env.kindOf x = some .cell) (hc : X.f.cells.lookup x = some c) (ho : c ∈ X.f.own) (hd : (x == ("__debug__" : Str)) = false)
    (R : Rep X σ s) (rv : RV s.heap σ.mem v V) (h : Q (σ.set x V)) : Ta X (trueR (α := Unit) (β := Unit)) (storeName X.env x v) σ s (fun _ σ' => Q σ') := by
  obtain ⟨m, hn, hL, hcs, hl⟩ := id R.env
  obtain ⟨_, v₀, hv₀⟩ := hcs c (.inl ho)
  refine wpAny_storeName_cell ok.kind hk hc hv₀ fun h' hn' hs' => ?_
  have g := R.setC (t := s.toks) hk hc ho ok.cellInj hd rv (ok.cellNew c ho).1 hv₀ hn' hs'
  exact ⟨(), _, trivial, g.1, g.2, h⟩

/-- a name that may be written here -/
def Writes (X : Cx) (x : Str) : Prop := (x == ("__debug__" : Str)) = false ∧ (X.env.kindOf x = some .local ∨ (X.env.kindOf x = some .cell ∧ ∃ c, X.f.cells.lookup x = some c ∧ c ∈ X.f.own))

theorem store_name (ok : X.Ok n) {x : Str} {V : Val} {v : Value} {s : Shared} {Q : St → Prop} (hw : Writes X x)
    (R : Rep X σ s) (rv : RV s.heap σ.mem v V) (h : Q (σ.set x V)) : Ta X (trueR (α := Unit) (β := Unit)) (storeName X.env x v) σ s (fun _ σ' => Q σ') := by
  obtain ⟨hd, hk | ⟨hk, c, hc, ho⟩⟩ := hw
  · exact store_local ok hk hd R rv h
  · exact store_cell ok hk hc ho hd R rv h

theorem AG_name (ok : X.Ok n) {x : Str} {pos : Pos} {V : Val} {Q : St → Prop} (hw : Writes X x) (h : Q (σ.set x V)) : AG X (.Name x pos) V σ Q :=
  fun _ _ R rv => PySem.wpAny_assign_Name (store_name ok hw R rv h)

def AGs (X : Cx) : List Expr → List Val → St → (St → Prop) → Prop
  | [], [], σ, Q => Q σ
  | t :: ts, V :: Vs, σ, Q => AG X t V σ (fun σ' => AGs X ts Vs σ' Q)
  | _, _, _, _ => False

theorem AGs_run : ∀ (ts : List Expr) (Vs : List Val) (vs : List Value) (σ : St) (s : Shared) (Q : St → Prop), (∀ t ∈ ts, ∀ e p, t ≠ .Starred e p) → AGs X ts Vs σ Q → Rep X σ s → RVs s.heap σ.mem vs Vs →
    Ta X (trueR (α := Unit) (β := Unit)) (assignInOrder ((assignEach ts X.env).map (·.2)) vs) σ s (fun _ σ' => Q σ')
  | [], [], [], σ, s, Q, _, h, R, _ => by
    show Ta X _ (assignInOrder [] []) σ s _
    unfold assignInOrder
    exact Ta.pure (b := ()) R trivial h
  | [], _ :: _, _, _, _, _, _, h, _, _ => h.elim
  | _ :: _, [], _, _, _, _, _, h, _, _ => h.elim
  | t :: ts, V :: Vs, v :: vs, σ, s, Q, hst, h, R, rvs => by
    have he : assignEach (t :: ts) X.env = (false, assign t X.env) :: assignEach ts X.env := by
      cases t <;> first | rfl | exact absurd rfl (hst _ (.head _) _ _)
    rw [he]
    show Ta X _ (assignInOrder (assign t X.env :: (assignEach ts X.env).map (·.2)) (v :: vs)) σ s _
    unfold assignInOrder
    cases rvs with
    | cons rv rvs =>
      refine Ta.bind (rel := trueR (α := Unit) (β := Unit)) (wpAny_holding (h s v R rv)) fun _ _ σ' s' _ R' x' hk => ?_
      exact AGs_run ts Vs vs σ' s' Q (fun t ht => hst t (.tail _ ht)) hk R' (x'.rvs R rvs)
  | [], [], _ :: _, _, _, _, _, _, _, rvs => by cases rvs
  | _ :: _, _ :: _, [], _, _, _, _, _, _, rvs => by cases rvs

theorem assignEach_length (X : Cx) : ∀ ts : List Expr, (assignEach ts X.env).length = ts.length
  | [] => rfl
  | t :: ts => by cases t <;> simp [assignEach, assignEach_length X ts]
theorem assignEach_star (X : Cx) : ∀ ts : List Expr, (∀ t ∈ ts, ∀ e p, t ≠ .Starred e p) → (assignEach ts X.env).findIdx? (·.1) = none
  | [], _ => rfl
  | t :: ts, h => by
    have he : assignEach (t :: ts) X.env = (false, assign t X.env) :: assignEach ts X.env := by
      cases t <;> first | rfl | exact absurd rfl (h _ (.head _) _ _)
    rw [he, List.findIdx?_cons, assignEach_star X ts fun t ht => h t (.tail _ ht)]
    rfl

theorem AG_tuple (ok : X.Ok n) {ts : List Expr} {k : Nat} {pos : Pos} {Vs : List Val} {Q : St → Prop} (hst : ∀ t ∈ ts, ∀ e p, t ≠ .Starred e p) (hlen : ts.length = Vs.length) (h : AGs X ts Vs σ Q) : AG X (.Tuple ts k pos) (.tup Vs) σ Q := fun s v R rv => by
  obtain ⟨a, items, k', rfl, e, _, rvs⟩ := rv.tup_inv
  refine wpAny_assign_Tuple ok.handled ⟨_, e, rfl, _, rfl⟩ (by rw [assignEach_length, hlen, ← rvs.length]; simp) (assignEach_star X ts hst) fun h' hx => ?_
  have kp : ∀ b o, s.heap.get? b = some o → h'.get? b = some o := fun b o e => hx b o (fun q => by rw [q, heap_top_none] at e; cases e) e
  have g := R.grow (t := s.toks) kp
  exact (AGs_run ts Vs items σ _ Q hst h g.1 (g.2.rvs R rvs)).then g.1 g.2

/-- an item of a tracked list -/
theorem AG_item {o i : Expr} {pos : Pos} {V : Val} {Q : St → Prop}
    (h : AE X o σ (fun a σ1 => AE X i σ1 (fun b σ2 => ∃ l vs k, a = .ref l ∧ b = .int k ∧ σ2.mem l = some (.list vs) ∧
      ((0 ≤ k ∧ k < 2 ^ 63 ∧ k < vs.length ∧ Q (σ2.put l (.list (vs.set k.toNat V)))) ∨ (k < 0 ∧ -(2 ^ 63) ≤ k ∧ -(vs.length : Int) ≤ k ∧ Q (σ2.put l (.list (vs.set (k + vs.length).toNat V)))))))) :
    AG X (.Subscript o i pos) V σ Q := fun s v R rv => by
  show wpAny _ _ (assign (.Subscript o i pos) X.env v) _ _ s
  rw [assign_Subscript]
  refine wpAny_bind (wpAny_holding (wpAny_mono (h s R) ?_ fun _ _ e => e))
  rintro va s1 ⟨a, σ1, ra, R1, x1, hk⟩
  refine wpAny_bind (wpAny_holding (wpAny_mono (hk s1 R1) ?_ fun _ _ e => e))
  rintro vb s2 ⟨b, σ2, rb, R2, x2, l, vs, k, rfl, rfl, hm, hh⟩
  obtain ⟨t, rfl⟩ := rb.int_inv
  have rv2 := x2.rv R1 (x1.rv R rv)
  have x12 := x1.trans R1 x2
  have ra2 := x2.rv R1 ra
  obtain rfl : va = .ref l := by cases ra2; rfl
  obtain ⟨items, kk, e, rvs⟩ := R2.isL hm
  refine wpAny_bind (wpAny_standAt (wpAny_bind (wpAny_holding ?_)))
  have fin : ∀ (j : Nat) (h' : Heap), h' = s2.heap.update l (Obj.mapSeq (·.setIfInBounds j v)) → Q (σ2.put l (.list (vs.set j V))) →
      ∀ rl : List Value, wpAny X.M X.A (release rl []) (fun a s' => ∃ (b : Unit) (σ' : St), trueR s'.heap σ'.mem a b ∧ Rep X σ' s' ∧ Ext X σ s σ' s' ∧ Q σ') (fun _ _ => False) { s2 with heap := h' } := by
    intro j h' eh q rl
    subst eh
    have el := PySem.IsL.update e (·.setIfInBounds j v)
    have ee : items.toArray.setIfInBounds j v = (items.set j v).toArray := by simp
    rw [ee] at el
    have kp : ∀ b o, b ≠ l → s2.heap.get? b = some o → (s2.heap.update l (Obj.mapSeq (·.setIfInBounds j v))).get? b = some o := fun b o q e => (Heap.get?_update_other _ _ (Ne.symm q)).trans e
    have pm : ∀ b, σ2.mem b = none → b ≠ l := fun b m q => by rw [q, hm] at m; cases m
    have g := R2.upd (t := s2.toks) (bx' := .list (vs.set j V)) hm kp ⟨items.set j v, _, el, (RVs.set rvs rv2).mono fun b o e m _ => ⟨kp b o (pm b m) e, by rw [St.put_mem, if_neg (pm b m)]; exact m⟩⟩
    exact wpAny_release' ⟨(), _, trivial, g.1, x12.trans R2 g.2, q⟩
  rcases hh with ⟨h0, h1, h2, q⟩ | ⟨h0, h1, h2, q⟩
  · exact ki_setAt e h0 h1 (by simpa [rvs.length] using h2) (fin _ _ rfl q _)
  · refine ki_setBack e h0 (by simpa [rvs.length] using h2) h1 ?_
    rw [show ((items.toArray.size : Nat) : Int) = (vs.length : Int) from by simp [rvs.length]]
    exact fin _ _ rfl q _
end

/-! statements -/
section
variable {X : Cx} {σ : St} {n : Nat} {Q : Fl → St → Prop} {pos : Pos}

theorem AS_nil (h : Q .next σ) : AS X [] σ Q := fun _ R => wpAny_execs_nil ⟨_, σ, .next, R, .refl, h⟩
theorem AS_cons {st : Stmt} {rest : List Stmt} (h : AX X st σ (fun fl σ1 => match fl with | .next => AS X rest σ1 Q | fl => Q fl σ1)) : AS X (st :: rest) σ Q := fun s R => by
  refine wpAny_execs_cons (wpAny_mono (h s R) ?_ fun _ _ e => e)
  rintro f s1 ⟨fl, σ1, rf, R1, x1, hk⟩
  cases rf with
  | next => exact (hk s1 R1).then R1 x1
  | brk => exact ⟨_, σ1, .brk, R1, x1, hk⟩
  | cont => exact ⟨_, σ1, .cont, R1, x1, hk⟩
  | ret r => exact ⟨_, σ1, .ret r, R1, x1, hk⟩

theorem AX_assign {t v : Expr} (hs : swapsWithSole [t] v pos.line X.env = pure false) (hw : swappedStores [t] v X.env = pure none) (ht : (assignEach [t] X.env).map (·.2) = [assign t X.env])
    (h : AE X v σ (fun V σ1 => AG X t V σ1 (fun σ2 => Q .next σ2))) : AX X (.Assign [t] v pos) σ Q := fun s R => by
  refine wpAny_Assign_stores (wpAny_mono (h s R) ?_ fun _ _ e => e) hs hw
  rintro va s1 ⟨V, σ1, rv, R1, x1, hk⟩
  rw [ht]
  show wpAny _ _ (assign t X.env va) _ _ s1
  refine wpAny_mono ((hk s1 va R1 rv).then R1 x1) ?_ fun _ _ e => e
  rintro _ s2 ⟨_, σ2, _, R2, x2, q⟩
  exact ⟨_, σ2, .next, R2, x2, q⟩

theorem AX_aug (ok : X.Ok n) {x : Str} {p : Pos} {op : Operator} {v : Expr} {W : Val} (hx : σ.loc x = some W) (hw : Writes X x)
    (h : AE X v σ (fun V σ1 => Iop2 X op W V σ1 (fun U σ2 => Q .next (σ2.set x U)))) : AX X (.AugAssign (.Name x p) op v pos) σ Q := fun s R => by
  refine wpAny_AugAssign_Name (load_name ok R hx fun w rw => ?_)
  refine wpAny_mono (h s R) ?_ fun _ _ e => e
  rintro va s1 ⟨V, σ1, rv, R1, x1, hk⟩
  refine wpAny_mono ((hk s1 w va R1 (x1.rv R rw) rv).then R1 x1) ?_ fun _ _ e => e
  rintro u s2 ⟨U, σ2, ru, R2, x2, q⟩
  refine wpAny_mono ((store_name ok hw R2 ru q).then R2 x2) ?_ fun _ _ e => e
  rintro _ s3 ⟨_, σ3, _, R3, x3, q⟩
  exact ⟨_, σ3, .next, R3, x3, q⟩

theorem AX_expr {e : Expr} (hi : interactive X.env = false) (hs : swapsWith e none pos.line X.env = pure false) (h : AE X e σ (fun _ σ1 => Q .next σ1)) : AX X (.Expr e pos) σ Q := fun s R => by
  refine wpAny_Expr_any (wpAny_mono (h s R) ?_ fun _ _ e => e) hi hs
  rintro va s1 ⟨V, σ1, rv, R1, x1, q⟩
  exact ⟨_, σ1, .next, R1, x1, q⟩

theorem AX_if {t : Expr} {b o : List Stmt} (h : AT X t σ (fun c σ1 => (c = true → AS X b σ1 Q) ∧ (c = false → AS X o σ1 Q))) : AX X (.If t b o pos) σ Q := fun s R => by
  refine wpAny_If (wpAny_mono (h s R) ?_ fun _ _ e => e)
  rintro c s1 ⟨d, σ1, rfl, R1, x1, q⟩
  cases c with
  | true => exact (q.1 rfl s1 R1).then R1 x1
  | false => exact (q.2 rfl s1 R1).then R1 x1

theorem AX_ret {e : Expr} (h : AE X e σ (fun V σ1 => Q (.ret V) σ1)) : AX X (.Return (some e) pos) σ Q := fun s R => by
  refine wpAny_Return_some (wpAny_mono (h s R) ?_ fun _ _ e => e)
  rintro va s1 ⟨V, σ1, rv, R1, x1, q⟩
  exact ⟨_, σ1, .ret rv, R1, x1, q⟩
theorem AX_break (h : Q .brk σ) : AX X (.Break pos) σ Q := fun _ R => wpAny_Break ⟨_, σ, .brk, R, .refl, h⟩
theorem AX_continue (h : Q .cont σ) : AX X (.Continue pos) σ Q := fun _ R => wpAny_Continue ⟨_, σ, .cont, R, .refl, h⟩

theorem AX_while {t : Expr} {b : List Stmt} (I : Nat → St → Prop)
    (turn : ∀ n σ, I n σ → AT X t σ (fun c σ1 => (c = true → AS X b σ1 (fun fl σ2 => match fl with
      | .next => ∃ m, m < n ∧ I m σ2
      | .cont => ∃ m, m < n ∧ I m σ2
      | .brk => Q .next σ2
      | .ret v => Q (.ret v) σ2)) ∧ (c = false → Q .next σ1)))
    (n : Nat) (h : I n σ) : AX X (.While t b [] pos) σ Q := fun s R => by
  refine wpAny_While ?_
  refine codeAny_whileLoop (fun n s' => ∃ σ', Rep X σ' s' ∧ Ext X σ s σ' s' ∧ I n σ') ?_ n ⟨σ, R, .refl, h⟩
  rintro n s' ⟨σ', R', x', hI⟩
  refine wpAny_mono (turn n σ' hI s' R') ?_ fun _ _ e => e.elim
  rintro c s1 ⟨d, σ1, rfl, R1, x1, q⟩
  have x01 := x'.trans R' x1
  cases c with
  | false => exact wpAny_execs_nil ⟨_, σ1, .next, R1, x01, q.2 rfl⟩
  | true =>
    refine wpAny_mono (q.1 rfl s1 R1) ?_ fun _ _ e => e.elim
    rintro f s2 ⟨fl, σ2, rf, R2, x2, hk⟩
    have x02 := x01.trans R1 x2
    cases rf with
    | next => obtain ⟨m, hm, hI⟩ := hk; exact ⟨m, hm, σ2, R2, x02, hI⟩
    | cont => obtain ⟨m, hm, hI⟩ := hk; exact ⟨m, hm, σ2, R2, x02, hI⟩
    | brk => exact ⟨_, σ2, .next, R2, x02, hk⟩
    | ret r => exact ⟨_, σ2, .ret r, R2, x02, hk⟩
end

end Mine
end
section
open PySem PySem.W PyProof.Rows PySem.Calls
namespace Mine

/-! iterators -/
structure It (X : Cx) (tg : Expr) (I : Addr) (W : Addr → Prop) (S : Nat → St → Heap → Prop) (items : List Val) (stay : St → Prop) : Prop where
  frame : ∀ i σ s σ' s', S i σ s.heap → Rep X σ s → Ext X σ s σ' s' → Rep X σ' s' → stay σ' → S i σ' s'.heap
  turn : ∀ i σ s V, Rep X σ s → S i σ s.heap → items[i]? = some V →
    wpAny X.M X.A (pyNext (.ref I)) (fun r s1 => ∃ v, r = some v ∧ wpAny X.M X.A (letOwnedTupleGo tg (.ref I) v) (fun _ s2 => ∃ h' tk, s2 = { s with heap := h', toks := tk } ∧ Rep X σ s2 ∧ RV h' σ.mem v V ∧ S (i + 1) σ h' ∧
      (∀ b o, ¬ W b → s.heap.get? b = some o → h'.get? b = some o)) (fun _ _ => False) s1) (fun _ _ => False) s
  done : ∀ σ s, Rep X σ s → S items.length σ s.heap →
    wpAny X.M X.A (pyNext (.ref I)) (fun r s1 => r = none ∧ ∃ h' tk, s1 = { s with heap := h', toks := tk } ∧ Rep X σ s1 ∧ (∀ b o, ¬ W b → s.heap.get? b = some o → h'.get? b = some o)) (fun _ _ => False) s
  self : ∀ i σ s, S i σ s.heap → wpAny X.M X.A (pyIter (.ref I)) (fun v s' => v = .ref I ∧ s' = s) (fun _ _ => False) s

/-- an iterator that has just been made; it may be walked in any frame that it does not lie in -/
def Walking (X : Cx) (tg : Expr) (σ : St) (s : Shared) (K : List Val → (St → Prop) → St → Prop) (it : Value) (s2 : Shared) : Prop :=
  ∃ I W S items stay σ', it = .ref I ∧ (∀ X' : Cx, X'.B = X.B → X'.A = X.A → (∃ n, X'.Ok n) → (∀ b, W b → b ≠ X'.f.L ∧ b ∉ X'.f.own) → It X' tg I W S items stay) ∧ S 0 σ' s2.heap ∧ Rep X σ' s2 ∧ Ext X σ s σ' s2 ∧
    (∀ b, W b → s.heap.get? b = none ∧ b ≠ X.f.L ∧ b ∉ X.f.own ∧ ∃ o, s2.heap.get? b = some o ∧ ¬ isSeqObj o ∧ ∀ v, o.data ≠ .cell v) ∧ stay σ' ∧ K items stay σ'

def AI (X : Cx) (tg iter : Expr) (σ : St) (K : List Val → (St → Prop) → St → Prop) : Prop :=
  ∀ s, Rep X σ s → wpAny X.M X.A (eval iter X.env) (fun x s1 => wpAny X.M X.A (pyIter x) (fun it s2 => Walking X tg σ s K it s2) (fun _ _ => False) s1) (fun _ _ => False) s

def ForL (X : Cx) (tg : Expr) (body : List Stmt) (stay : St → Prop) (Q : Fl → St → Prop) : List Val → St → Prop
  | [], σ => Q .next σ
  | V :: r, σ => AG X tg V σ (fun σ1 => AS X body σ1 (fun fl σ2 => match fl with
      | .next => stay σ2 ∧ ForL X tg body stay Q r σ2
      | .cont => stay σ2 ∧ ForL X tg body stay Q r σ2
      | .brk => Q .next σ2
      | .ret v => Q (.ret v) σ2))

section
variable {X : Cx} {σ : St} {n : Nat} {pos : Pos}

/-- the walk's own writes do not touch what was there before it -/
theorem Ext.walked {σ σ' : St} {s s' : Shared} {h' : Heap} {tk : Nat} {W : Addr → Prop} (x : Ext X σ s σ' s') (hW : ∀ b, W b → s.heap.get? b = none) (hk : ∀ b o, ¬ W b → s'.heap.get? b = some o → h'.get? b = some o) :
    Ext X σ s σ' { s' with heap := h', toks := tk } :=
  ⟨fun b o e m hL ho => hk b o (fun w => by rw [hW b w] at e; cases e) (x.keep b o e m hL ho), x.mem, fun b o e => let ⟨o', e'⟩ := x.live b o e; ⟨o', hk b o' (fun w => by rw [hW b w] at e; cases e) e'⟩⟩

theorem drop_cons_of_get {α : Type} {l : List α} {i : Nat} (h : i < l.length) : l.drop i = l[i] :: l.drop (i + 1) := List.drop_eq_getElem_cons h

theorem AX_for (ok : X.Ok n) {tg iter : Expr} {body : List Stmt} {Q : Fl → St → Prop} (hs : ∀ x, foldedSetIterable iter X.env x = pure x)
    (h : AI X tg iter σ (fun items stay σ1 => ForL X tg body stay Q items σ1)) : AX X (.For tg iter body [] pos) σ Q := fun s R => by
  refine wpAny_For (wpAny_mono (h s R) ?_ fun _ _ e => e) hs
  intro x s1 h1
  refine wpAny_mono h1 ?_ fun _ _ e => e
  rintro it s2 ⟨I, W, S, items, stay, σ2, rfl, it, hS, R2, x2, hW', hst, hF⟩
  have hW : ∀ b, W b → s.heap.get? b = none := fun b w => (hW' b w).1
  replace it := it X rfl rfl ⟨n, ok⟩ fun b w => ⟨(hW' b w).2.1, (hW' b w).2.2.1⟩
  refine codeAny_forLoop_any (fun k s' => ∃ i σ', i ≤ items.length ∧ k = items.length + 1 - i ∧ Rep X σ' s' ∧ S i σ' s'.heap ∧ Ext X σ s σ' s' ∧ ForL X tg body stay Q (items.drop i) σ') ?_ (items.length + 1)
    ⟨0, σ2, Nat.zero_le _, rfl, R2, hS, x2, by simpa using hF⟩
  rintro k s' ⟨i, σ', hi, rfl, R', hS', x', hF'⟩
  by_cases hlt : i < items.length
  · have hV : items[i]? = some items[i] := List.getElem?_eq_getElem hlt
    rw [drop_cons_of_get hlt] at hF'
    refine wpAny_mono (it.turn i σ' s' _ R' hS' hV) ?_ fun _ _ e => e.elim
    rintro r s3 ⟨v, rfl, h3⟩
    refine wpAny_mono h3 ?_ fun _ _ e => e.elim
    rintro _ s4 ⟨h', tk, rfl, R4, rv, hS4, hk4⟩
    have x4 := x'.walked (tk := tk) hW hk4
    refine wpAny_mono (hF' _ v R4 rv) ?_ fun _ _ e => e.elim
    rintro _ s5 ⟨_, σ5, _, R5, x5, hb⟩
    refine wpAny_mono (hb s5 R5) ?_ fun _ _ e => e.elim
    rintro f s6 ⟨fl, σ6, rf, R6, x6, hk⟩
    have x06 := (x4.trans R4 x5).trans R5 x6
    cases rf with
    | next => exact ⟨items.length + 1 - (i + 1), by omega, i + 1, σ6, hlt, rfl, R6, it.frame _ _ _ _ _ hS4 R4 (x5.trans R5 x6) R6 hk.1, x06, hk.2⟩
    | cont => exact ⟨items.length + 1 - (i + 1), by omega, i + 1, σ6, hlt, rfl, R6, it.frame _ _ _ _ _ hS4 R4 (x5.trans R5 x6) R6 hk.1, x06, hk.2⟩
    | brk => exact ⟨_, σ6, .next, R6, x06, hk⟩
    | ret r => exact ⟨_, σ6, .ret r, R6, x06, hk⟩
  · have hie : i = items.length := by omega
    subst hie
    rw [List.drop_length] at hF'
    refine wpAny_mono (it.done σ' s' R' hS') ?_ fun _ _ e => e.elim
    rintro r s3 ⟨rfl, h', tk, rfl, R3, hk3⟩
    exact wpAny_execs_nil ⟨_, σ', .next, R3, x'.walked hW hk3, hF'⟩

/-! a list walked -/
def Plain (tg : Expr) : Prop := (∃ x p, tg = .Name x p) ∨ (∃ ts k p, tg = .Tuple ts k p)

theorem letOwned_list {tg : Expr} (ht : Plain tg) {I l : Addr} {i : Nat} {v : Value} {s : Shared} {Q : Unit → Shared → Prop} {E : Value → Shared → Prop} (hit : s.heap.IsListIter I l i) (hQ : Q () s) : wpAny X.M X.A (letOwnedTupleGo tg (.ref I) v) Q E s := by
  rcases ht with ⟨x, p, rfl⟩ | ⟨ts, k, p, rfl⟩
  · exact wpAny_pure hQ
  · cases v with
    | ref T => exact wpAny_letOwnedTupleGo_listiter hit hQ
    | _ => exact wpAny_pure hQ

theorem It.list (ok : X.Ok n) {tg : Expr} (ht : Plain tg) {I l : Addr} {V : Val} {vs : List Val} (hV : (V = .lst vs) ∨ V = .ref l) (hI1 : X.B.h₁.get? I = none) (hIL : I ≠ X.f.L) (hIo : I ∉ X.f.own) :
    It X tg I (· = I) (fun i σ h => h.IsListIter I l i ∧ σ.mem I = none ∧ RV h σ.mem (.ref l) V ∧ SeqOf σ V vs) vs (fun σ => SeqOf σ V vs) where
  frame := by
    rintro i σ s σ' s' ⟨⟨o, ho, hc, hd⟩, hm, hr, _⟩ R x R' hst
    exact ⟨⟨o, x.keep I o ho hm hIL hIo, hc, hd⟩, x.mem I o ho hm, x.rv R hr, hst⟩
  turn := by
    rintro i σ s W R ⟨hit, hm, hr, hsq⟩ hV'
    obtain ⟨a, items, k, ea, e, rvs⟩ := hsq.open R hr
    cases ea
    obtain ⟨v, hv, rv⟩ := rvs.get hV'
    refine wpAny_pyNext_list_item hit (PySem.IsL.isList e) (x := v) (by simpa using hv) fun h' hit' hs' => ⟨v, rfl, letOwned_list ht hit' ?_⟩
    have R' : Rep X σ { s with heap := h', toks := s.toks } := R.touch (W := (· = I)) (fun b o q e => hs'.extBut b o q e) fun b q => by
      subst q
      refine ⟨hI1, hIL, hm, fun o ho => ?_⟩
      obtain ⟨o', ho', _, hd⟩ := hit
      rw [ho] at ho'; cases ho'
      exact ⟨(fun ⟨_, _, q⟩ => absurd (hd.symm.trans q) nofun), (fun v q => absurd (hd.symm.trans q) nofun)⟩
    have ks : ∀ b o, s.heap.get? b = some o → σ.mem b = none → isSeqObj o → h'.get? b = some o ∧ σ.mem b = none := fun b o e m q => ⟨hs'.extBut b o (fun z => by
      obtain ⟨o', ho', _, hd⟩ := hit
      rw [z, ho'] at e; cases e
      obtain ⟨_, _, q⟩ := q; rw [hd] at q; cases q) e, m⟩
    exact ⟨h', s.toks, rfl, R', rv.mono ks, ⟨hit', hm, hr.mono ks, hsq⟩, fun b o q e => hs'.extBut b o q e⟩
  done := by
    rintro σ s R ⟨hit, hm, hr, hsq⟩
    obtain ⟨a, items, k, ea, e, rvs⟩ := hsq.open R hr
    cases ea
    refine wpAny_pyNext_list_end ok.handled hit (PySem.IsL.isList e) (by simp [rvs.length]) fun h' hx => ⟨rfl, h', s.toks, rfl, ?_, fun b o q e => hx b o q e⟩
    refine R.touch (W := (· = I)) (fun b o q e => hx b o q e) fun b q => ?_
    subst q
    refine ⟨hI1, hIL, hm, fun o ho => ?_⟩
    obtain ⟨o', ho', _, hd⟩ := hit
    rw [ho] at ho'; cases ho'
    exact ⟨(fun ⟨_, _, q⟩ => absurd (hd.symm.trans q) nofun), (fun v q => absurd (hd.symm.trans q) nofun)⟩
  self := fun i σ s ⟨hit, _⟩ => wpAny_pyIter_listiter hit ⟨rfl, rfl⟩

theorem Rep.top (R : Rep X σ s) : X.B.h₁.get? s.heap.objs.size = none ∧ s.heap.objs.size ≠ X.f.L ∧ s.heap.objs.size ∉ X.f.own ∧ σ.mem s.heap.objs.size = none := by
  have f := R.fresh (heap_top_none s.heap)
  obtain ⟨m, ⟨o, _, _, ho, _⟩, _, hc, _⟩ := R.env
  refine ⟨f.2, fun q => ?_, fun q => ?_, f.1⟩
  · rw [← q, heap_top_none] at ho; cases ho
  · obtain ⟨_, v, o', ho', _⟩ := hc _ (.inl q)
    rw [heap_top_none] at ho'; cases ho'

theorem AI_list {tg iter : Expr} (ht : Plain tg) {K : List Val → (St → Prop) → St → Prop} (h : AE X iter σ (fun V σ1 => ∃ vs, SeqOf σ1 V vs ∧ K vs (fun σ' => SeqOf σ' V vs) σ1)) : AI X tg iter σ K := fun s R => by
  refine wpAny_mono (h s R) ?_ fun _ _ e => e
  rintro v s1 ⟨V, σ1, rv, R1, x1, vs, hsq, hK⟩
  obtain ⟨l, items, k, rfl, e, rvs⟩ := hsq.open R1 rv
  refine wpAny_pyIter_list (PySem.IsL.isList e) ?_
  have g := R1.grow (h' := s1.heap.push { cls := .type "list_iterator", data := .fields #[.ref l, .int 0 0] }) (t := s1.toks) fun b o e => Heap.get?_push_of_some _ e
  have tp := R1.top
  refine ⟨s1.heap.objs.size, (· = s1.heap.objs.size), _, vs, _, σ1, rfl, fun X' eB eA ⟨n', ok'⟩ hd => It.list ok' ht (l := l) (V := V) ?_ (eB ▸ tp.1) (hd _ rfl).1 (hd _ rfl).2, ⟨⟨_, Heap.get?_push_size _ rfl, rfl, rfl⟩, tp.2.2.2, g.2.rv R1 rv, hsq⟩, g.1, x1.trans R1 g.2, ?_, hsq, hK⟩
  · rcases hsq with rfl | ⟨a, rfl, _⟩
    · exact .inl rfl
    · cases rv; exact .inr rfl
  · rintro b rfl
    refine ⟨?_, tp.2.1, tp.2.2.1, _, Heap.get?_push_size _ rfl, (fun ⟨_, _, q⟩ => nomatch q), (fun v q => nomatch q)⟩
    cases q : s.heap.get? s1.heap.objs.size with
    | none => rfl
    | some o =>
      obtain ⟨o', e'⟩ := x1.live _ o q
      rw [heap_top_none] at e'; cases e'
end

end Mine
end
section
open PySem PySem.W PyProof.Rows PySem.Calls
namespace Mine

/-! defs of the text, called -/
def fnFm (L : Addr) (qual : Str) (fa : Addr) (code : Value) (sc : Scope) : Fm :=
  { L := L, cells := cellsFrom (L + 1) sc.names [], own := (cellsFrom (L + 1) sc.names []).map (·.2), qual := qual, func := some fa, code := code, frame := some L }

structure FnAt (B : Base) (name : Str) (params : List Str) (body : List Stmt) (sc : Scope) (fa : Addr) (fd : FuncData) (o : Obj) : Prop where
  glob : B.mg name = some (.ref fa)
  get : B.h₁.get? fa = some o
  data : o.data = .func fd
  code : B.h₁.CodeRec fd.code fd.qualname
  body : fd.body = .stmts body
  clo : fd.closure = []
  scope : fd.scope = sc
  globals : fd.globals = mainGlobals
  builtins : fd.builtins = builtinsNs
  bind : ∀ vals, vals.length = params.length → bindArgs fd ⟨vals, []⟩ = pure (params.zip vals)
  nodup : params.Nodup
  kinds : ∀ x ∈ params, (x == ("__debug__" : Str)) = false ∧ (sc.names.lookup x = some .local ∨ (sc.names.lookup x = some .cell))
  cellNd : ((cellsFrom 0 sc.names []).map (·.1)).Nodup
  co : sc.isCoroutine = false
  gen : sc.isGenerator = false
  kind : sc.kind = .function

theorem bindL_out {k : Str → Option NameKind} : ∀ (bs : List (Str × Value)) (m : Str → Option Value) (x : Str), x ∉ bs.map (·.1) → bindL k bs m x = m x
  | [], _, _, _ => rfl
  | (n, v) :: r, m, x, h => by
    rw [List.map_cons, List.mem_cons, not_or] at h
    unfold bindL
    rw [bindL_out r _ x h.2]
    split
    · simp [h.1]
    · rfl
theorem bindC_out {k : Str → Option NameKind} : ∀ (bs : List (Str × Value)) (m : Str → Option Value) (x : Str), x ∉ bs.map (·.1) → bindC k bs m x = m x
  | [], _, _, _ => rfl
  | (n, v) :: r, m, x, h => by
    rw [List.map_cons, List.mem_cons, not_or] at h
    unfold bindC
    rw [bindC_out r _ x h.2]
    split
    · rfl
    · simp [h.1]
theorem bindL_in {k : Str → Option NameKind} : ∀ (bs : List (Str × Value)) (m : Str → Option Value) (x : Str) (v : Value), (bs.map (·.1)).Nodup → bs.lookup x = some v → k x = some .local → bindL k bs m x = some v
  | [], _, _, _, _, h, _ => by cases h
  | (n, u) :: r, m, x, v, hn, h, hk => by
    rw [List.map_cons, List.nodup_cons] at hn
    unfold bindL
    rw [List.lookup_cons] at h
    cases hx : x == n with
    | true =>
      rw [hx] at h
      have e : x = n := by simpa using hx
      subst e
      cases h
      rw [bindL_out r _ x hn.1, if_pos hk]; simp
    | false => rw [hx] at h; exact bindL_in r _ x v hn.2 h hk
theorem bindC_in {k : Str → Option NameKind} : ∀ (bs : List (Str × Value)) (m : Str → Option Value) (x : Str) (v : Value), (bs.map (·.1)).Nodup → bs.lookup x = some v → k x ≠ some .local → bindC k bs m x = some v
  | [], _, _, _, _, h, _ => by cases h
  | (n, u) :: r, m, x, v, hn, h, hk => by
    rw [List.map_cons, List.nodup_cons] at hn
    unfold bindC
    rw [List.lookup_cons] at h
    cases hx : x == n with
    | true =>
      rw [hx] at h
      have e : x = n := by simpa using hx
      subst e
      cases h
      rw [bindC_out r _ x hn.1, if_neg hk]; simp
    | false => rw [hx] at h; exact bindC_in r _ x v hn.2 h hk

theorem cellsFrom_some' {x : Str} {names : List (Str × NameKind)} {n : Nat} (h : names.lookup x = some .cell) : ((cellsFrom n names []).lookup x).isSome = true := cellsFrom_some names n [] (.inl h)

theorem zip_lookup {params : List Str} : ∀ {Vs : List Val} {vs : List Value} {h : Heap} {mem : Mem} {x : Str} {V : Val}, RVs h mem vs Vs → (params.zip Vs).lookup x = some V → ∃ v, (params.zip vs).lookup x = some v ∧ RV h mem v V := by
  induction params with
  | nil => intro Vs vs h mem x V _ e; simp at e
  | cons p ps ih =>
    intro Vs vs h mem x V r e
    cases r with
    | nil => simp at e
    | cons a r =>
      rw [List.zip_cons_cons, List.lookup_cons] at e ⊢
      cases hx : x == p with
      | true => rw [hx] at e; cases e; exact ⟨_, rfl, a⟩
      | false => rw [hx] at e; exact ih r e
theorem zip_lookup_mem {params : List Str} {α : Type} : ∀ {Vs : List α} {x : Str} {V : α}, (params.zip Vs).lookup x = some V → x ∈ params := by
  induction params with
  | nil => intro Vs x V e; simp at e
  | cons p ps ih =>
    intro Vs x V e
    cases Vs with
    | nil => simp at e
    | cons a r =>
      rw [List.zip_cons_cons, List.lookup_cons] at e
      cases hx : x == p with
      | true => exact List.mem_cons.mpr (.inl (by simpa using hx))
      | false => rw [hx] at e; exact .tail _ (ih e)

def St.back (σ σ' : St) : St := { mem := fun a => if (σ.mem a).isSome then σ'.mem a else none, loc := σ.loc }
def Fl.val : Fl → Val
  | .ret v => v
  | _ => .none
def St.enter (σ : St) (params : List Str) (Vs : List Val) : St := { mem := σ.mem, loc := fun x => (params.zip Vs).lookup x }

/-- what a def of the text answers to a call -/
def CallD (B : Base) (n : Nat) (params : List Str) (body : List Stmt) (sc : Scope) (Vs : List Val) (σ : St) (Q : Val → St → Prop) : Prop :=
  ∀ A L qual fa code, (⟨B, A, fnFm L qual fa code sc, sc⟩ : Cx).Ok n → AS ⟨B, A, fnFm L qual fa code sc, sc⟩ body (σ.enter params Vs) (fun fl σ' => Q fl.val (σ.back σ'))

section
variable {X : Cx} {σ : St} {n : Nat} {pos : Pos}

theorem call_def (ok : X.Ok (n + 1)) {name : Str} {params : List Str} {body : List Stmt} {sc : Scope} {fa : Addr} {fd : FuncData} {o : Obj} (F : FnAt X.B name params body sc fa fd o) {Vs : List Val} {vs : List Value} {s : Shared} {Q : Val → St → Prop}
    (R : Rep X σ s) (rvs : RVs s.heap σ.mem vs Vs) (hl : Vs.length = params.length) (h : CallD X.B n params body sc Vs σ Q) : Ta X RV (call (.ref fa) vs) σ s Q := by
  refine wpAny_call ?_
  have hvl : vs.length = params.length := rvs.length.trans hl
  refine codeAny_call_cells (body := body) (binds := params.zip vs) (Nat.lt_of_le_of_lt (Nat.le_add_right _ _) ok.depth) (R.keep _ _ F.get) F.data (ok.base.lim.keeps R.keep) (F.code.keeps R.keep) F.body (F.bind vs hvl) F.clo ?_ ?_ (by rw [F.scope]; exact F.co) (by rw [F.scope]; exact F.gen) (by rw [F.scope]; exact F.kind)
  · intro x hx
    have hm : x.1 ∈ params := by
      obtain ⟨a, b⟩ := x
      exact (List.of_mem_zip hx).1
    rw [F.scope]
    rcases (F.kinds _ hm).2 with k | k
    · exact .inl k
    · exact .inr ⟨k, cellsFrom_some' k⟩
  · intro s₁ C
    have eE : callEnvC fd s.heap.objs.size fa = (fnFm s.heap.objs.size (fd.qualname ++ ".<locals>.") fa fd.code sc).env sc := by
      simp only [callEnvC, newEnv, Fm.env, fnFm, F.scope, F.globals, F.builtins]
    rw [eE] at C ⊢
    generalize hX' : (⟨X.B, X.A.deeper ((fnFm s.heap.objs.size (fd.qualname ++ ".<locals>.") fa fd.code sc).env sc), fnFm s.heap.objs.size (fd.qualname ++ ".<locals>.") fa fd.code sc, sc⟩ : Cx) = X'
    have eB : X'.B = X.B := by rw [← hX']
    have eA : X'.A = X.A.deeper ((fnFm s.heap.objs.size (fd.qualname ++ ".<locals>.") fa fd.code sc).env sc) := by rw [← hX']
    have eF : X'.f = fnFm s.heap.objs.size (fd.qualname ++ ".<locals>.") fa fd.code sc := by rw [← hX']
    have eS : X'.sc = sc := by rw [← hX']
    have eL : X'.f.L = s.heap.objs.size := by rw [eF]; rfl
    have eC : X'.f.cells = cellsFrom (s.heap.objs.size + 1) sc.names [] := by rw [eF]; rfl
    have eO : X'.f.own = (cellsFrom (s.heap.objs.size + 1) sc.names []).map (·.2) := by rw [eF]; rfl
    have above : ∀ c ∈ X'.f.own, s.heap.objs.size < c := by
      intro c hc
      rw [eO] at hc
      obtain ⟨⟨y, c'⟩, hm, rfl⟩ := List.mem_map.mp hc
      exact C.above y c' hm
    have notlive : ∀ c, s.heap.objs.size ≤ c → s.heap.get? c = none := fun c hc => Heap.get?_none_of_le hc
    have ok' : X'.Ok n := by
      refine ⟨eB ▸ ok.base, eS ▸ F.kind, ?_, ?_, ?_, ?_, ?_, ?_⟩
      · rw [eA]; exact ok.handled
      · rw [eA]; show X.A.depth + 1 + n < _; have := ok.depth; omega
      · rw [eA]; show X.A.units + 3 + 10 * n + 100 < _; have := ok.units; omega
      · rw [eB, eL]; exact R.top.1
      · intro c hc
        refine ⟨?_, by rw [eL]; exact Nat.ne_of_gt (above c hc)⟩
        rw [eB]; exact (R.fresh (notlive c (Nat.le_of_lt (above c hc)))).2
      · intro x y c hx hy
        rw [eC] at hx hy
        exact name_of_addr C.apart (mem_of_lookup hx) (mem_of_lookup hy)
    obtain ⟨h₁, tk₁, rfl, hk₁⟩ := C.done
    have g := R.grow (t := tk₁) hk₁
    have R' : Rep X' (σ.enter params Vs) { s with heap := h₁, toks := tk₁ } := by
      refine ⟨eB ▸ g.1.keep, g.1.gens, eB ▸ g.1.os, fun a bx e => ?_, ?_⟩
      · have q := g.1.mem a bx e; rw [eB]; exact q
      · refine ⟨_, eL ▸ C.toInCall.ns, by rw [eL]; exact R.top.2.2.2, fun c hc => ?_, fun x V hx => ?_⟩
        · replace hc : c ∈ X'.f.own := hc.elim id fun ⟨x, hx⟩ => by rw [eC] at hx; rw [eO]; exact List.mem_map.mpr ⟨(x, c), hx, rfl⟩
          refine ⟨(R.fresh (notlive c (Nat.le_of_lt (above c hc)))).1, ?_⟩
          rw [eO] at hc
          obtain ⟨⟨y, c'⟩, hm, rfl⟩ := List.mem_map.mp hc
          have nd : ((cellsFrom (s.heap.objs.size + 1) sc.names []).map (·.1)).Nodup := by
            rw [← cellsFrom_names sc.names 0 (s.heap.objs.size + 1) [] [] rfl]; exact F.cellNd
          exact ⟨_, C.cell y c' (lookup_of_mem_nodup nd hm)⟩
        · obtain ⟨v, hv, rv⟩ := zip_lookup rvs hx
          have hmem := zip_lookup_mem hx
          have nd : ((params.zip vs).map (·.1)).Nodup := by
            rw [List.map_fst_zip (by omega)]; exact F.nodup
          refine ⟨(F.kinds x hmem).1, v, g.2.rv R rv, ?_⟩
          have ek : X'.env.kindOf x = sc.names.lookup x := by
            show X'.sc.names.lookup x = _; rw [eS]
          rcases (F.kinds x hmem).2 with k | k
          · exact .inl ⟨ek.trans k, bindL_in _ _ x v nd hv k⟩
          · obtain ⟨c, hc⟩ := Option.isSome_iff_exists.mp (cellsFrom_some' (n := s.heap.objs.size + 1) k)
            refine .inr ⟨c, eC ▸ hc, ?_, ?_, .inl (ek.trans k)⟩
            · have q := C.cell x c hc
              rw [bindC_in _ _ x v nd hv (by show sc.names.lookup x ≠ _; rw [k]; decide)] at q
              exact q
            · exact (R.fresh (notlive c (Nat.le_of_lt (C.above x c (mem_of_lookup hc))))).1
    have hc := h X'.A X'.f.L (fd.qualname ++ ".<locals>.") fa fd.code (by
      have : (⟨X.B, X'.A, fnFm X'.f.L (fd.qualname ++ ".<locals>.") fa fd.code sc, sc⟩ : Cx) = X' := by rw [eL, ← hX']
      rw [this]; exact ok')
    have eX : (⟨X.B, X'.A, fnFm X'.f.L (fd.qualname ++ ".<locals>.") fa fd.code sc, sc⟩ : Cx) = X' := by rw [eL, ← hX']
    rw [eX] at hc
    have hw := hc _ R'
    rw [show (model X.B.prog X.B.w) = X'.M from by rw [← hX'], ← eA, show (fnFm s.heap.objs.size (fd.qualname ++ ".<locals>.") fa fd.code sc).env sc = X'.env from by rw [← hX']]
    refine wpAny_mono hw ?_ fun _ _ e => e.elim
    rintro f s' ⟨fl, σ', rf, R'', x', q⟩
    have nn : ∀ b, σ'.mem b = none → (σ.back σ').mem b = none := fun b m => by
      show (if _ then _ else _) = none
      split
      · exact m
      · rfl
    have nk : ∀ b ob, s.heap.get? b = some ob → σ.mem b = none → s'.heap.get? b = some ob ∧ (σ.back σ').mem b = none := fun b ob e m => by
      have lt := Heap.lt_size e
      refine ⟨x'.keep b ob (hk₁ b ob e) m (by rw [eL]; exact Nat.ne_of_lt lt) (fun hm => ?_), ?_⟩
      · exact absurd (above b hm) (Nat.not_lt.mpr (Nat.le_of_lt lt))
      · exact nn b (x'.mem b ob (hk₁ b ob e) m)
    have RX : Rep X (σ.back σ') s' := by
      refine ⟨eB ▸ R''.keep, R''.gens, eB ▸ R''.os, fun a bx e => ?_, ?_⟩
      · have e' : σ'.mem a = some bx := by
          have : (if (σ.mem a).isSome then σ'.mem a else none) = some bx := e
          split at this
          · exact this
          · cases this
        have q := R''.mem a bx e'
        rw [eB] at q
        exact ⟨q.1, q.2.mono (fun b o e m _ => ⟨e, nn b m⟩) fun _ e => e⟩
      · obtain ⟨m, ⟨oL, es, ep, hL, rest⟩, qL, qc, ql⟩ := id R.env
        exact R.env.mono (fun b ob e m _ => nk b ob e m) (fun ob e => (nk _ ob e qL).1) (fun c v ⟨ob, e, d⟩ m => ⟨⟨ob, (nk c ob e m).1, d⟩, (nk c ob e m).2⟩) (nk _ _ hL qL).2 fun _ _ e => e
    refine ⟨fl.val, σ.back σ', ?_, RX, ⟨fun b ob e m _ _ => (nk b ob e m).1, fun b ob e m => (nk b ob e m).2, fun b ob e => x'.live b ob (hk₁ b ob e)⟩, q⟩
    cases rf with
    | ret r => exact r.mono fun b o e m _ => ⟨e, nn b m⟩
    | next => exact .none
    | brk => exact .none
    | cont => exact .none

theorem name_global (ok : X.Ok n) {x : Str} {v : Value} {s : Shared} {E : Value → Shared → Prop} {Q : Value → Shared → Prop} (R : Rep X σ s) (hk : X.env.kindOf x = some .globalImplicit) (hd : (x == ("__debug__" : Str)) = false) (hv : X.B.mg x = some v) (h : Q v s) :
    wpAny X.M X.A (eval (.Name x pos) X.env) Q E s := Name_function_global ok.kind hk (loadGlobal_global (ok.base.g.keeps R.keep) hv h) hd
theorem name_builtin (ok : X.Ok n) {x : Str} {v : Value} {s : Shared} {E : Value → Shared → Prop} {Q : Value → Shared → Prop} (R : Rep X σ s) (hk : X.env.kindOf x = some .globalImplicit) (hd : (x == ("__debug__" : Str)) = false) (hg : X.B.mg x = none) (hn : x ≠ ("__name__" : Str))
    (hv : bootBuiltins x = some v) (h : Q v s) : wpAny X.M X.A (eval (.Name x pos) X.env) Q E s :=
  Name_function_global ok.kind hk (loadGlobal_builtin (ok.base.g.keeps R.keep) hg (ok.base.b.keeps R.keep) ((ok.base.boot x hn).trans hv) h) hd

theorem AE_call (ok : X.Ok (n + 1)) {name : Str} {p : Pos} {e : Expr} {args : List Expr} {params : List Str} {body : List Stmt} {sc : Scope} {fa : Addr} {fd : FuncData} {o : Obj} (F : FnAt X.B name params body sc fa fd o) {Q : Val → St → Prop}
    (hk : X.env.kindOf name = some .globalImplicit) (hd : (name == ("__debug__" : Str)) = false) (he : starEach (e :: args) X.env = (false, eval e X.env) :: starEach args X.env)
    (h : AEs X pos (e :: args) σ (fun Vs σ1 => Vs.length = params.length ∧ CallD X.B n params body sc Vs σ1 Q)) : AE X (.Call (.Name name p) (e :: args) [] pos) σ Q := fun s R => by
  refine PyProof.Rows.Call_ (name_global ok R hk hd F.glob ?_)
  refine PyProof.Rows.callWith_def (o := o) (fd := fd) F.data (wpAny_mono (h s R) ?_ fun _ _ e => e) he
  rintro vs s1 ⟨Vs, σ1, rvs, R1, x1, hl, hc⟩
  exact ⟨R1.keep _ _ F.get, (call_def ok F R1 rvs hl hc).then R1 x1⟩

/-! built-in callables -/
def BC (X : Cx) (f : Value) (Vs : List Val) (σ : St) (Q : Val → St → Prop) : Prop := ∀ s vs, Rep X σ s → RVs s.heap σ.mem vs Vs → Ta X RV (call f vs) σ s Q

/-- a built-in's name, here -/
structure BName (X : Cx) (x : Str) (v : Value) : Prop where
  kind : X.env.kindOf x = some .globalImplicit
  dbg : (x == ("__debug__" : Str)) = false
  free : X.B.mg x = none
  ne : x ≠ ("__name__" : Str)
  boot : bootBuiltins x = some v

theorem AE_builtin (ok : X.Ok n) {x : Str} {p : Pos} {id : String} {e : Expr} {args : List Expr} {Q : Val → St → Prop} (N : BName X x (.builtin id)) (he : starEach (e :: args) X.env = (false, eval e X.env) :: starEach args X.env)
    (hp : (backTo pos (starEach args X.env)).any (·.1) = false) (h : AEs X pos (e :: args) σ (fun Vs σ1 => BC X (.builtin id) Vs σ1 Q)) : AE X (.Call (.Name x p) (e :: args) [] pos) σ Q := fun s R => by
  refine PyProof.Rows.Call_ (name_builtin ok R N.kind N.dbg N.free N.ne N.boot ?_)
  refine PyProof.Rows.callWith_builtin1 (wpAny_mono (h s R) ?_ fun _ _ e => e) he hp
  rintro vs s1 ⟨Vs, σ1, rvs, R1, x1, hc⟩
  exact (hc s1 vs R1 rvs).then R1 x1

theorem BC_len {V : Val} {vs : List Val} {Q : Val → St → Prop} (hs : SeqOf σ V vs) (hl : vs.length < 2 ^ 62) (h : Q (.int vs.length) σ) : BC X (.builtin "len") [V] σ Q := fun s v R rv => by
  cases rv with
  | cons a r =>
    cases r
    obtain ⟨l, items, k, rfl, e, rvs⟩ := hs.open R a
    refine PyProof.Rows.len_list (PySem.IsL.isList e) (by simp [rvs.length]; omega) ?_
    have g := R.toks (t := s.toks + 1 + 1)
    refine ⟨_, σ, ?_, g.1, g.2, h⟩
    simpa [rvs.length] using RV.int (h := s.heap) (mem := σ.mem) (vs.length : Int) (s.toks + 1)
end

end Mine
end
section
open PySem PySem.W PyProof.Rows PySem.Calls PySem.Spec
namespace Mine

/-! plain data: equality, membership -/
mutual
def Val.dat : Val → Dat
  | .none => .none
  | .bool b => .bool b
  | .int i => .int i
  | .str x => .str x
  | .tup vs => .tuple (Val.dats vs)
  | .lst vs => .list (Val.dats vs)
  | .ref _ => .bytes #[]
def Val.dats : List Val → List Dat
  | [] => []
  | v :: vs => v.dat :: Val.dats vs
end
theorem dats_eq (vs : List Val) : Val.dats vs = vs.map Val.dat := by
  induction vs with
  | nil => rfl
  | cons v vs ih => simp [Val.dats, ih]

def pureV (n : Nat) (v : Val) : Prop := kqdOk n v.dat = true
theorem pureV_int {n : Nat} (i : Int) : pureV n (.int i) := by cases n <;> rfl
theorem pureV_none {n : Nat} : pureV n .none := by cases n <;> rfl
theorem pureV_tup {n : Nat} {vs : List Val} : pureV (n + 1) (.tup vs) ↔ ∀ v ∈ vs, pureV n v := by
  simp [pureV, Val.dat, kqdOk, dats_eq]
theorem pureV_lst {n : Nat} {vs : List Val} : pureV (n + 1) (.lst vs) ↔ ∀ v ∈ vs, pureV n v := by
  simp [pureV, Val.dat, kqdOk, dats_eq]

mutual
theorem dat_inj : ∀ (n k : Nat) (v w : Val), kqdOk n v.dat = true → kqdOk k w.dat = true → v.dat = w.dat → v = w
  | n, _, .none, w, _, h2, e => by cases w <;> simp_all [Val.dat]
  | n, _, .bool b, w, h1, h2, e => by cases n <;> simp [Val.dat, kqdOk] at h1
  | n, _, .int i, w, _, h2, e => by cases w <;> simp_all [Val.dat]
  | n, _, .str x, w, _, h2, e => by cases w <;> simp_all [Val.dat]
  | n, _, .ref a, w, h1, _, e => by cases n <;> simp [Val.dat, kqdOk] at h1
  | 0, _, .tup vs, w, h1, _, e => by simp [Val.dat, kqdOk] at h1
  | 0, _, .lst vs, w, h1, _, e => by simp [Val.dat, kqdOk] at h1
  | n + 1, k, .tup vs, w, h1, h2, e => by
    cases w with
    | tup ws =>
      cases k with
      | zero => simp [Val.dat, kqdOk] at h2
      | succ k =>
        simp only [Val.dat, Dat.tuple.injEq] at e
        rw [dats_inj n k vs ws (by simpa [Val.dat, kqdOk] using h1) (by simpa [Val.dat, kqdOk] using h2) e]
    | _ => simp [Val.dat] at e
  | n + 1, k, .lst vs, w, h1, h2, e => by
    cases w with
    | lst ws =>
      cases k with
      | zero => simp [Val.dat, kqdOk] at h2
      | succ k =>
        simp only [Val.dat, Dat.list.injEq] at e
        rw [dats_inj n k vs ws (by simpa [Val.dat, kqdOk] using h1) (by simpa [Val.dat, kqdOk] using h2) e]
    | _ => simp [Val.dat] at e
theorem dats_inj : ∀ (n k : Nat) (vs ws : List Val), (∀ d ∈ Val.dats vs, kqdOk n d = true) → (∀ d ∈ Val.dats ws, kqdOk k d = true) → Val.dats vs = Val.dats ws → vs = ws
  | _, _, [], [], _, _, _ => rfl
  | _, _, [], _ :: _, _, _, e => by simp [Val.dats] at e
  | _, _, _ :: _, [], _, _, e => by simp [Val.dats] at e
  | n, k, v :: vs, w :: ws, h1, h2, e => by
    simp only [Val.dats, List.cons.injEq] at e
    simp only [Val.dats, List.mem_cons, forall_eq_or_imp] at h1 h2
    rw [dat_inj n k v w h1.1 h2.1 e.1, dats_inj n k vs ws h1.2 h2.2 e.2]
end

mutual
theorem RV.reads {h : Heap} {mem : Mem} : ∀ {v : Value} {V : Val} (n : Nat), RV h mem v V → kqdOk n V.dat = true → ∃ as, Reads h v (kqdP V.dat) as
  | _, _, _, .none, _ => ⟨_, Reads.none⟩
  | _, _, _, .bool b, _ => ⟨_, Reads.bool b⟩
  | _, _, _, .int i t, _ => ⟨_, Reads.int i t⟩
  | _, _, _, .str x t, _ => ⟨_, Reads.str x t⟩
  | _, _, n, .ref _, hk => by cases n <;> simp [Val.dat, kqdOk] at hk
  | _, _, 0, .tup _ _ _, hk => by simp [Val.dat, kqdOk] at hk
  | _, _, 0, .lst _ _ _, hk => by simp [Val.dat, kqdOk] at hk
  | _, _, n + 1, .tup e _ r, hk => by
    obtain ⟨as, q⟩ := RVs.reads n r (by simpa [Val.dat, kqdOk] using hk)
    rw [Val.dat, kqdP]
    exact ⟨as, reads_tuple_at e rfl rfl (by simpa using q)⟩
  | _, _, n + 1, .lst e _ r, hk => by
    obtain ⟨as, q⟩ := RVs.reads n r (by simpa [Val.dat, kqdOk] using hk)
    rw [Val.dat, kqdP]
    exact ⟨_, reads_list_at e rfl rfl (by simpa using q)⟩
theorem RVs.reads {h : Heap} {mem : Mem} : ∀ {vs : List Value} {Vs : List Val} (n : Nat), RVs h mem vs Vs → (∀ d ∈ Val.dats Vs, kqdOk n d = true) → ∃ as, ReadsAll h vs (kqdPs (Val.dats Vs)) as
  | _, _, _, .nil, _ => ⟨_, ReadsAll.nil⟩
  | _, _, n, .cons a r, hk => by
    simp only [Val.dats, List.mem_cons, forall_eq_or_imp] at hk
    obtain ⟨as, q⟩ := RV.reads n a hk.1
    obtain ⟨bs, p⟩ := RVs.reads n r hk.2
    rw [Val.dats, kqdPs]
    exact ⟨_, ReadsAll.cons q p⟩
end

/-- a value, a tracked list seen as its items -/
def View (σ : St) (A A' : Val) : Prop := A' = A ∨ ∃ a vs, A = .ref a ∧ σ.mem a = some (.list vs) ∧ A' = .lst vs
theorem View.self {σ : St} {A : Val} : View σ A A := .inl rfl
theorem View.ref {σ : St} {a : Addr} {vs : List Val} (h : σ.mem a = some (.list vs)) : View σ (.ref a) (.lst vs) := .inr ⟨a, vs, rfl, h, rfl⟩

theorem View.reads {X : Cx} {σ : St} {s : Shared} {A A' : Val} {v : Value} {n : Nat} (w : View σ A A') (R : Rep X σ s) (r : RV s.heap σ.mem v A) (hp : pureV n A') : ∃ as, Reads s.heap v (kqdP A'.dat) as := by
  rcases w with rfl | ⟨a, vs, rfl, hm, rfl⟩
  · exact r.reads n hp
  · cases r
    obtain ⟨items, k, e, rvs⟩ := R.isL hm
    cases n with
    | zero => simp [pureV, Val.dat, kqdOk] at hp
    | succ n =>
      obtain ⟨as, q⟩ := rvs.reads n (by simpa [pureV, Val.dat, kqdOk] using hp)
      rw [Val.dat, kqdP]
      exact ⟨_, reads_list_at e rfl rfl (by simpa using q)⟩

theorem shaped_of {n : Nat} (hn : n ≤ 60) {V : Val} (h : pureV n V) : SeqAt.shaped (kqdP V.dat) = true := by
  have la := kqd_lay n V.dat h
  unfold SeqAt.shaped
  rw [la.1, Bool.true_and]
  exact decide_eq_true (Nat.le_trans la.2 (by omega))

section
variable {X : Cx} {σ : St} {n : Nat} {P : Bool → St → Prop}

theorem eqv_iff {k m : Nat} {A B : Val} (ha : pureV k A) (hb : pureV m B) : PyData.eqv (kqdP A.dat) (kqdP B.dat) = true ↔ A = B :=
  (kqd_eqv k A.dat B.dat m ha hb).trans ⟨dat_inj k m A B ha hb, fun e => by rw [e]⟩

theorem Cmp_eqD (ok : X.Ok n) {A B A' B' : Val} (wa : View σ A A') (wb : View σ B B') (ha : pureV 8 A') (hb : pureV 8 B') (h : ∀ b : Bool, (b = true ↔ A' = B') → P b σ) : Cmp2 X .Eq A B σ P := fun s va vb R ra rb => by
  obtain ⟨as, qa⟩ := wa.reads R ra ha
  obtain ⟨bs, qb⟩ := wb.reads R rb hb
  exact eq_dataH qa qb (shaped_of (by decide) ha) (shaped_of (by decide) hb) (by have := ok.units; omega) (boolQ R (h _ (eqv_iff ha hb)))
theorem Cmp_neD (ok : X.Ok n) {A B A' B' : Val} (wa : View σ A A') (wb : View σ B B') (ha : pureV 8 A') (hb : pureV 8 B') (h : ∀ b : Bool, (b = true ↔ A' ≠ B') → P b σ) : Cmp2 X .NotEq A B σ P := fun s va vb R ra rb => by
  obtain ⟨as, qa⟩ := wa.reads R ra ha
  obtain ⟨bs, qb⟩ := wb.reads R rb hb
  refine ne_dataH qa qb (shaped_of (by decide) ha) (shaped_of (by decide) hb) (by have := ok.units; omega) (boolQ R (h _ ?_))
  have q := eqv_iff ha hb
  constructor
  · intro z e; rw [q.mpr e] at z; cases z
  · intro z
    cases w : PyData.eqv (kqdP A'.dat) (kqdP B'.dat) with
    | false => rfl
    | true => exact absurd (q.mp w) z

/-- an int in a list of ints -/
theorem any_isInt (k : Int) : ∀ {vs : List Value} {ns : List Int}, IntsAre vs ns → (vs.any (isInt k)) = decide (k ∈ ns)
  | _, _, .nil => by simp
  | _, _, .cons n t h => by
    have e : isInt k (.int n t) = decide (k = n) := by
      simp only [isInt]
      by_cases q : n = k
      · simp [q]
      · have : ¬ k = n := fun e => q e.symm
        simp [q, this]
    rw [List.any_cons, any_isInt k h, e]
    simp [List.mem_cons, Bool.decide_or]

theorem Cmp_in {k : Int} {L : Val} {ns : List Int} (hs : SeqOf σ L (ns.map Val.int)) (h : P (decide (k ∈ ns)) σ) : Cmp2 X .In (.int k) L σ P := fun s va vb R ra rb => by
  obtain ⟨t, rfl⟩ := ra.int_inv
  obtain ⟨l, items, kk, rfl, e, rvs⟩ := hs.open R rb
  have hi := rvs.ints
  refine SeqInW.in_listW (isInt k) (fun y hy => eq_isInt k t hi y (by simpa using hy)) (PySem.IsL.isList e) (boolQ R ?_)
  rw [show (items.toArray.any (isInt k)) = decide (k ∈ ns) from by rw [← any_isInt k hi]; simp]
  exact h
theorem Cmp_notin {k : Int} {L : Val} {ns : List Int} (hs : SeqOf σ L (ns.map Val.int)) (h : P (decide (k ∉ ns)) σ) : Cmp2 X .NotIn (.int k) L σ P := fun s va vb R ra rb => by
  obtain ⟨t, rfl⟩ := ra.int_inv
  obtain ⟨l, items, kk, rfl, e, rvs⟩ := hs.open R rb
  have hi := rvs.ints
  refine SeqInW.notIn_listW (isInt k) (fun y hy => eq_isInt k t hi y (by simpa using hy)) (PySem.IsL.isList e) (boolQ R ?_)
  rw [show (items.toArray.any (isInt k)) = decide (k ∈ ns) from by rw [← any_isInt k hi]; simp]
  rwa [show (!decide (k ∈ ns)) = decide (k ∉ ns) from by by_cases hk : k ∈ ns <;> simp [hk]]
end

/-! tuples of ints, by the first place that differs -/
def lexLt : List Int → List Int → Bool
  | [], [] => false
  | [], _ :: _ => true
  | _ :: _, [] => false
  | a :: as, b :: bs => if a = b then lexLt as bs else decide (a < b)

section
variable {prog : Program} {w : World} {A : Around} {E : Value → Shared → Prop} {s : Shared}

theorem lex_zip_nil : ∀ {xs ys : List Int} {vs ws : List Value}, IntsAre vs xs → IntsAre ws ys → List.zip vs ws = [] → lexLt xs ys = decide (vs.length < ws.length)
  | [], [], _, _, .nil, .nil, _ => by simp [lexLt]
  | [], _ :: _, _, _, .nil, .cons _ _ _, _ => by simp [lexLt]
  | _ :: _, [], _, _, .cons _ _ _, .nil, _ => by simp [lexLt]
  | _ :: _, _ :: _, _, _, .cons _ _ _, .cons _ _ _, h => by simp at h

theorem tuple_lt_tree {x y : List Int} {a b : Addr} {vs ws : List Value} {k m : Nat} {P : PySem.Fin → Shared → Prop} (hx : IsT s.heap a vs.toArray k) (hy : IsT s.heap b ws.toArray m) (ix : IntsAre vs x) (iy : IntsAre ws y)
    (h : P (.done (.ret (.bool (lexLt x y)))) s) : wpAny (model prog w) A (Builtin.«tuple.__lt__» ⟨[.ref a, .ref b], []⟩) P E s := by
  show wpAny _ _ (isInstance (.ref b) (.type "tuple") >>= _) _ _ s
  refine wpAny_bind (wpAny_isInstance (T := "tuple") ⟨_, hy, rfl⟩ isSubtype_tuple_tuple ?_)
  simp only [Bool.not_true, Bool.false_eq_true, if_false]
  refine wpAny_bind (wpAny_tupleItemsOf hx rfl ?_)
  refine wpAny_bind (wpAny_tupleItemsOf hy rfl ?_)
  refine wpAny_bind ?_
  refine wpAny_forIn_list _
    (fun rest r s' => r.1 = none ∧ s' = s ∧ ∃ x' y' vs' ws', rest = List.zip vs' ws' ∧ IntsAre vs' x' ∧ IntsAre ws' y' ∧ lexLt x' y' = lexLt x y ∧ decide (vs'.length < ws'.length) = decide (vs.length < ws.length))
    _ ?_ ?_ _ _ ⟨rfl, rfl, x, y, vs, ws, by simp, ix, iy, rfl, rfl⟩
  · rintro ⟨u, v⟩ rest r s' ⟨hr, rfl, x', y', vs', ws', hz, hx', hy', hdec, hlen⟩
    cases hx' with
    | nil => simp at hz
    | @cons k1 t1 vs'' x'' hx'' =>
      cases hy' with
      | nil => simp at hz
      | @cons k2 t2 ws'' y'' hy'' =>
        simp only [List.zip_cons_cons, List.cons.injEq, Prod.mk.injEq] at hz
        obtain ⟨⟨rfl, rfl⟩, rfl⟩ := hz
        refine wpAny_bind (wpAny_eqBool_int ?_)
        by_cases hk : k1 = k2
        · subst hk
          simp only [beq_self_eq_true, Bool.not_true, Bool.false_eq_true, if_false]
          refine wpAny_pure ⟨rfl, rfl, x'', y'', vs'', ws'', rfl, hx'', hy'', ?_, by simpa using hlen⟩
          rw [← hdec]; simp [lexLt]
        · have hb : (k1 == k2) = false := by simpa using hk
          rw [hb]
          simp only [Bool.not_false, if_true]
          have hf : lexLt x y = decide (k1 < k2) := by rw [← hdec]; simp [lexLt, hk]
          rw [hf] at h
          refine wpAny_bind (wpAny_rule ?_)
          refine wpAny_bind (show wpAny _ _ (compareOp .Lt (.int k1 t1) (.int k2 t2)) _ _ _ from PyProof.Rows.lt_int ?_)
          exact wpAny_bind (wpAny_pure (wpAny_pure (wpAny_pure h)))
  · rintro ⟨r1, r2⟩ s' ⟨hr, rfl, x', y', vs', ws', hz, hx', hy', hdec, hlen⟩
    simp only at hr
    subst hr
    refine wpAny_pure ?_
    have hfin : decide (vs.length < ws.length) = lexLt x y := by
      rw [← hdec, ← hlen]
      exact (lex_zip_nil hx' hy' hz.symm).symm
    have e : Builtin.Tuple.tupleCompareSizes .Lt vs.toArray.size ws.toArray.size = .bool (lexLt x y) := by
      rw [← hfin]; simp [Builtin.Tuple.tupleCompareSizes]
    show P (.done (.ret (Builtin.Tuple.tupleCompareSizes .Lt vs.toArray.size ws.toArray.size))) s'
    rw [e]; exact h

theorem tuple_lt {x y : List Int} {a b : Addr} {vs ws : List Value} {k m : Nat} {Q : Value → Shared → Prop} (hu : A.units < cLine) (hx : IsT s.heap a vs.toArray k) (hy : IsT s.heap b ws.toArray m) (ix : IntsAre vs x) (iy : IntsAre ws y)
    (h : Q (.bool (lexLt x y)) s) : wpAny (model prog w) A (richCompare .Lt (.ref a) (.ref b)) Q E s :=
  wpAny_richCompare_same_room (op := .Lt) (T := "tuple") ⟨_, hx, rfl⟩ ⟨_, hy, rfl⟩ F.slot_tuple_lt
    (wpAny_call_entry F.slot_tuple_lt ⟨_, hx, rfl⟩ F.entry_tuple_lt (tuple_lt_tree hx hy ix iy ⟨_, rfl, (fun e => nomatch e), h⟩) (F.args_tuple_lt_2 _ _)) hu
end

section
variable {X : Cx} {σ : St} {n : Nat} {P : Bool → St → Prop} {pos : Pos}
theorem Cmp_ltT (ok : X.Ok n) {x y : List Int} (h : P (lexLt x y) σ) : Cmp2 X .Lt (.tup (x.map Val.int)) (.tup (y.map Val.int)) σ P := fun s va vb R ra rb => by
  obtain ⟨a, ia, ka, rfl, ea, _, rva⟩ := ra.tup_inv
  obtain ⟨b, ib, kb, rfl, eb, _, rvb⟩ := rb.tup_inv
  exact tuple_lt (by have := ok.units; omega) ea eb rva.ints rvb.ints (boolQ R h)

/-! a list's truth -/
theorem Tru_list {V : Val} {vs : List Val} (hs : SeqOf σ V vs) (hl : vs.length < 2 ^ 62) (h : P (decide (vs ≠ [])) σ) : Tru X V σ P := fun s va R ra => by
  obtain ⟨l, items, k, rfl, e, rvs⟩ := hs.open R ra
  refine wpAny_truthy_list (PySem.IsL.isList e) (by simp [rvs.length]; omega) ?_
  have g := R.toks (t := s.toks + 1 + 1)
  refine ⟨_, σ, rfl, g.1, g.2, ?_⟩
  rw [show (!items.toArray.isEmpty) = decide (vs ≠ []) from by
    have := rvs.length
    cases items <;> cases vs <;> simp_all]
  exact h
end

end Mine
end
section
open PySem PySem.W PyProof.Rows PySem.Calls
namespace Mine

section
variable {X : Cx} {σ : St} {n : Nat} {pos apos : Pos} {Q : Val → St → Prop}

/-! methods of a tracked list -/
theorem noDictL {h : Heap} {l : Addr} {items : Array Value} {k : Nat} (e : IsL h l items k) : h.NoDictAt (.ref l) := ⟨_, e, rfl⟩

theorem AE_append {o e : Expr} {pl : Sem Bool} (h : AE X o σ (fun a σ1 => ∃ l us, a = .ref l ∧ σ1.mem l = some (.list us) ∧ AE X e σ1 (fun V σ2 => ∃ vs, σ2.mem l = some (.list vs) ∧ vs.length < 16777216 ∧ Q .none (σ2.put l (.list (vs ++ [V]))))))
    (ha : backTo pos (starEach [e] X.env) = [(false, eval e X.env)])
    (he : eval (.Call (.Attribute o (Str.ofString "append") apos) [e] [] pos) X.env = (do
      let ov ← eval o X.env
      standAt apos.atName
      let (f, first) ← holding [ov] (getMethod ov (Str.ofString "append") pl)
      callWith pos f first (backTo pos (starEach [e] X.env)) [])) : AE X (.Call (.Attribute o (Str.ofString "append") apos) [e] [] pos) σ Q := fun s R => by
  refine MethodCall_ (wpAny_mono (h s R) ?_ fun _ _ e => e) he
  rintro va s1 ⟨a, σ1, ra, R1, x1, l, us, rfl, hm, hk⟩
  obtain rfl : va = .ref l := by cases ra; rfl
  obtain ⟨iu, ku, eu, ru⟩ := R1.isL hm
  refine getMethod_list_of F.slot_list_append F.type_list_append (PySem.IsL.isList eu) (noDictL eu) ?_
  rw [ha]
  refine P.append_list (wpAny_mono (hk s1 R1) ?_ fun _ _ e => e)
  rintro v s2 ⟨V, σ2, rv, R2, x2, vs, hm2, hl, q⟩
  obtain ⟨items, k, e2, rvs⟩ := R2.isL hm2
  refine ⟨_, _, sz (by simp [rvs.length]; omega), e2, ?_⟩
  have el := PySem.IsL.update e2 (·.push v)
  rw [show items.toArray.push v = (items ++ [v]).toArray from by simp] at el
  have kp : ∀ b o, b ≠ l → s2.heap.get? b = some o → (s2.heap.update l (Obj.mapSeq (·.push v))).get? b = some o := fun b o q e => (Heap.get?_update_other _ _ (Ne.symm q)).trans e
  have pm : ∀ b, σ2.mem b = none → b ≠ l := fun b m q => by rw [q, hm2] at m; cases m
  have g := R2.upd (t := s2.toks) (bx' := .list (vs ++ [V])) hm2 kp ⟨items ++ [v], _, el, (rvs.snoc rv).mono fun b o e m _ => ⟨kp b o (pm b m) e, by rw [St.put_mem, if_neg (pm b m)]; exact m⟩⟩
  exact ⟨_, _, .none, g.1, (x1.trans R1 x2).trans R2 g.2, q⟩

theorem AE_pop {o : Expr} {pl : Sem Bool} (h : AE X o σ (fun a σ1 => ∃ l vs V, a = .ref l ∧ σ1.mem l = some (.list (vs ++ [V])) ∧ vs.length < 16777216 ∧ Q V (σ1.put l (.list vs))))
    (ha : backTo pos (starEach [] X.env) = [])
    (he : eval (.Call (.Attribute o (Str.ofString "pop") apos) [] [] pos) X.env = (do
      let ov ← eval o X.env
      standAt apos.atName
      let (f, first) ← holding [ov] (getMethod ov (Str.ofString "pop") pl)
      callWith pos f first (backTo pos (starEach [] X.env)) [])) : AE X (.Call (.Attribute o (Str.ofString "pop") apos) [] [] pos) σ Q := fun s R => by
  refine MethodCall_ (wpAny_mono (h s R) ?_ fun _ _ e => e) he
  rintro va s1 ⟨a, σ1, ra, R1, x1, l, vs, V, rfl, hm, hl, q⟩
  obtain rfl : va = .ref l := by cases ra; rfl
  obtain ⟨items, k, e1, rvs⟩ := R1.isL hm
  refine getMethod_list_of F.slot_list_pop F.type_list_pop (PySem.IsL.isList e1) (noDictL e1) ?_
  rw [ha]
  have hlen : items.length = vs.length + 1 := by rw [rvs.length]; simp
  obtain ⟨v, hv, rv⟩ := rvs.get (k := vs.length) (V := V) (by simp)
  refine P.pop_list e1 (y := v) (by rw [show items.toArray.size - 1 = vs.length from by simp [hlen], List.getElem?_toArray]; exact hv) ?_ (sz (by simp [hlen]; omega))
  have el := PySem.IsL.update e1 (fun xs => xs.eraseIdxIfInBounds (items.toArray.size - 1))
  rw [show items.toArray.eraseIdxIfInBounds (items.toArray.size - 1) = (items.take vs.length).toArray from by
    rw [Array.eraseIdxIfInBounds]
    have : items.toArray.size - 1 = vs.length := by simp [hlen]
    rw [dif_pos (by simp [hlen])]
    simp only [this, List.eraseIdx_toArray]
    congr 1
    rw [List.eraseIdx_eq_take_drop_succ]
    have : items.drop (vs.length + 1) = [] := List.drop_eq_nil_of_le (by omega)
    rw [this, List.append_nil]] at el
  have kp : ∀ b o, b ≠ l → s1.heap.get? b = some o → (s1.heap.update l (Obj.mapSeq fun xs => xs.eraseIdxIfInBounds (items.toArray.size - 1))).get? b = some o := fun b o q e => (Heap.get?_update_other _ _ (Ne.symm q)).trans e
  have pm : ∀ b, σ1.mem b = none → b ≠ l := fun b m q => by rw [q, hm] at m; cases m
  have rt : RVs s1.heap σ1.mem (items.take vs.length) vs := by simpa using rvs.take vs.length
  have mm : ∀ b o, s1.heap.get? b = some o → σ1.mem b = none → isSeqObj o → (s1.heap.update l (Obj.mapSeq fun xs => xs.eraseIdxIfInBounds (items.toArray.size - 1))).get? b = some o ∧ (σ1.put l (.list vs)).mem b = none :=
    fun b o e m _ => ⟨kp b o (pm b m) e, by rw [St.put_mem, if_neg (pm b m)]; exact m⟩
  have g := R1.upd (t := s1.toks) (bx' := .list vs) hm kp ⟨items.take vs.length, _, el, rt.mono mm⟩
  exact ⟨V, _, rv.mono mm, g.1, x1.trans R1 g.2, q⟩

/-- the place of an int in a list of ints -/
theorem AE_index {o e : Expr} {pl : Sem Bool} (h : AE X o σ (fun a σ1 => ∃ ns : List Int, SeqOf σ1 a (ns.map Val.int) ∧ AE X e σ1 (fun V σ2 => ∃ (k : Int) (j : Nat), V = .int k ∧ SeqOf σ2 a (ns.map Val.int) ∧ j < 2 ^ 62 ∧ ns[j]? = some k ∧ (∀ m, m < j → ns[m]? ≠ some k) ∧ Q (.int j) σ2)))
    (ha : backTo pos (starEach [e] X.env) = [(false, eval e X.env)])
    (he : eval (.Call (.Attribute o (Str.ofString "index") apos) [e] [] pos) X.env = (do
      let ov ← eval o X.env
      standAt apos.atName
      let (f, first) ← holding [ov] (getMethod ov (Str.ofString "index") pl)
      callWith pos f first (backTo pos (starEach [e] X.env)) [])) : AE X (.Call (.Attribute o (Str.ofString "index") apos) [e] [] pos) σ Q := fun s R => by
  refine MethodCall_ (wpAny_mono (h s R) ?_ fun _ _ e => e) he
  rintro va s1 ⟨a, σ1, ra, R1, x1, ns, hs, hk⟩
  obtain ⟨l, iu, ku, rfl, eu, ru⟩ := hs.open R1 ra
  refine getMethod_list_of F.slot_list_index F.type_list_index (PySem.IsL.isList eu) (noDictL eu) ?_
  rw [ha]
  refine P.index_list (wpAny_mono (hk s1 R1) ?_ fun _ _ e => e)
  rintro v s2 ⟨V, σ2, rv, R2, x2, k, j, rfl, hs2, hj, hjk, hno, q⟩
  obtain ⟨t, rfl⟩ := rv.int_inv
  obtain ⟨l2, items, kk, el2, e2, rvs⟩ := hs2.open R2 (x2.rv R1 ra)
  cases el2
  have hi := rvs.ints
  have hlen : items.length = ns.length := hi.length
  have hjl : j < ns.length := (List.getElem?_eq_some_iff.mp hjk).1
  have ev : ∀ m (hm : m < items.length) (hm' : m < ns.length), isInt k items[m] = (ns[m] == k) := fun m hm hm' => isInt_at k hi m hm hm'
  refine ⟨_, _, isInt k, j, by simpa [hlen] using hjl, e2, fun y hy => eq_isInt k t hi y (by simpa using hy), by omega, ?_, ?_, ?_⟩
  · have := ev j (by omega) hjl
    simp only [List.getElem_toArray]
    rw [this]
    have := (List.getElem?_eq_some_iff.mp hjk).2
    simp [this]
  · intro m hm hmj
    have hm' : m < ns.length := by omega
    simp only [List.getElem_toArray]
    rw [ev m (by omega) hm']
    have := hno m hmj
    rw [List.getElem?_eq_getElem hm'] at this
    simpa using this
  · have g := R2.toks (t := s2.toks + 1)
    exact ⟨_, σ2, .int _ _, g.1, (x1.trans R1 x2).trans R2 g.2, q⟩

/-! slices -/
def AP (X : Cx) (o : Option Expr) (σ : St) (Q : Option Int → St → Prop) : Prop := match o with
  | none => Q none σ
  | some e => AE X e σ (fun V σ1 => ∃ i, V = .int i ∧ Q (some i) σ1)

theorem AP_run {o : Option Expr} {s : Shared} {K : Option Int → St → Prop} (h : AP X o σ K) (R : Rep X σ s) {Q' : Value → Shared → Prop}
    (hk : ∀ v i σ' s', IsPart v i → Rep X σ' s' → Ext X σ s σ' s' → K i σ' → Q' v s') : wpAny X.M X.A (valueOrNone (evalOpt o X.env)) Q' (fun _ _ => False) s := by
  cases o with
  | none => exact wpAny_pure (hk _ _ σ s .none R .refl h)
  | some e =>
    refine wpAny_mono (h s R) ?_ fun _ _ e => e
    rintro v s1 ⟨V, σ1, rv, R1, x1, i, rfl, q⟩
    obtain ⟨t, rfl⟩ := rv.int_inv
    exact hk _ _ σ1 s1 (.int i t) R1 x1 q

def pickV (vs : List Val) (lo hi st : Option Int) : List Val :=
  (sliceRange (sliceBounds lo hi st vs.length).1 (sliceBounds lo hi st vs.length).2.1 (sliceBounds lo hi st vs.length).2.2).filterMap (vs[·]?)

theorem rvs_filterMap {h : Heap} {mem : Mem} {vs : List Value} {Vs : List Val} (r : RVs h mem vs Vs) : ∀ idx : List Nat, RVs h mem (idx.filterMap (vs[·]?)) (idx.filterMap (Vs[·]?))
  | [] => .nil
  | i :: idx => by
    have ih := rvs_filterMap r idx
    cases e : Vs[i]? with
    | some V =>
      obtain ⟨v, hv, rv⟩ := r.get e
      rw [List.filterMap_cons_some hv, List.filterMap_cons_some e]
      exact .cons rv ih
    | none =>
      have hv : vs[i]? = none := by
        rw [List.getElem?_eq_none_iff] at e ⊢
        rw [r.length]; exact e
      rw [List.filterMap_cons_none hv, List.filterMap_cons_none e]
      exact ih

theorem slicePick_pickV {h : Heap} {mem : Mem} {items : List Value} {Vs : List Val} (r : RVs h mem items Vs) (lo hi st : Option Int) : ∃ its : List Value, slicePick items.toArray lo hi st = its.toArray ∧ RVs h mem its (pickV Vs lo hi st) := by
  refine ⟨_, rfl, ?_⟩
  unfold pickV
  have : items.toArray.size = Vs.length := by simp [r.length]
  rw [this]
  simpa using rvs_filterMap r _

theorem AE_slice {v : Expr} {lo hi st : Option Expr} {p : Pos} (hs : ∀ o x, ∃ ops, subscripted (.Slice lo hi st p) false o x = operate ops (getItem o x))
    (h : AE X v σ (fun a σ1 => AP X lo σ1 (fun l σ2 => AP X hi σ2 (fun u σ3 => AP X st σ3 (fun w σ4 => ∃ vs, SeqOf σ4 a vs ∧ vs.length ≤ 16777216 ∧ w ≠ some 0 ∧ Made σ4 (pickV vs l u w) Q))))) :
    AE X (.Subscript v (.Slice lo hi st p) pos) σ Q := fun s R => by
  refine Subscript_ (wpAny_mono (h s R) ?_ fun _ _ e => e)
  rintro va s1 ⟨a, σ1, ra, R1, x1, hk⟩
  show wpAny _ _ (do
    let l ← valueOrNone (evalOpt lo X.env)
    let u ← holding [l] (valueOrNone (evalOpt hi X.env))
    let w ← holding [l, u] (valueOrNone (evalOpt st X.env))
    newFields "slice" [l, u, w]) _ _ s1
  refine wpAny_bind (AP_run hk R1 fun vl il σ2 s2 pl R2 x2 hk2 => ?_)
  refine wpAny_bind (wpAny_holding (AP_run hk2 R2 fun vu iu σ3 s3 pu R3 x3 hk3 => ?_))
  refine wpAny_bind (wpAny_holding (AP_run hk3 R3 fun vw iw σ4 s4 pw R4 x4 hk4 => ?_))
  obtain ⟨vs, hsq, hlen, h0, M⟩ := hk4
  refine wpAny_newObj_type ?_
  have g := R4.grow (h' := s4.heap.push { cls := .type "slice", data := .fields #[vl, vu, vw] }) (t := s4.toks) fun b o e => Heap.get?_push_of_some _ e
  have x04 := ((x1.trans R1 x2).trans R2 x3).trans R3 x4
  have ra4 := x4.rv R3 (x3.rv R2 (x2.rv R1 ra))
  obtain ⟨l, items, k, rfl, e, rvs⟩ := hsq.open g.1 (g.2.rv R4 ra4)
  obtain ⟨ops, ho⟩ := hs (.ref l) (.ref s4.heap.objs.size)
  refine tail_any (PySem.IsL.isList e).typeIs slot_list_getitem.lookup ?_ ho
  refine wpAny_getItem_list_slice (PySem.IsL.isList e) (Heap.IsSliceOf.new s4.heap vl vu vw) pl pu pw h0 ?_ (sz (by simpa [rvs.length] using hlen))
  obtain ⟨its, eq, rits⟩ := slicePick_pickV rvs il iu iw
  rw [eq]
  obtain ⟨V, σ', r, R', x', q'⟩ := M.take (t := s4.toks) g.1 (heap_top_none _) (fun b o e => Heap.get?_push_of_some _ e) (Heap.get?_push_size (o := { cls := .type "list", data := .seq its.toArray }) _ rfl) rits
  exact ⟨V, σ', r, R', (x04.trans R4 g.2).trans g.1 x', q'⟩

theorem pickV_plain (vs : List Val) (lo hi : Option Int) : pickV vs lo hi none = (vs.drop (lo.elim 0 (clipAt vs.length))).take (hi.elim vs.length (clipAt vs.length) - lo.elim 0 (clipAt vs.length)) := by
  unfold pickV
  rw [sliceBounds_plain]
  simp only
  rw [sliceRange_one]
  generalize lo.elim 0 (clipAt vs.length) = a
  generalize hi.elim vs.length (clipAt vs.length) - a = k
  induction k generalizing a with
  | zero => simp
  | succ k ih =>
    rw [List.range_succ_eq_map, List.map_cons, List.map_map, List.filterMap_cons]
    have e : (List.map ((fun x => a + x) ∘ Nat.succ) (List.range k)) = List.map (fun x => (a + 1) + x) (List.range k) := by
      apply List.map_congr_left; intro x _; simp; omega
    rw [e, ih (a + 1)]
    by_cases h : a < vs.length
    · rw [Nat.add_zero, List.getElem?_eq_getElem h, List.drop_eq_getElem_cons h]
      rfl
    · rw [Nat.add_zero, List.getElem?_eq_none (by omega), List.drop_eq_nil_of_le (by omega), List.drop_eq_nil_of_le (by omega)]
      simp

/-! sums, the greatest, the least -/
theorem preSum_getD : ∀ (ns : List Int) (k : Nat), k ≤ ns.length → preSum (fun i => ns.getD i 0) k = (ns.take k).sum
  | ns, 0, _ => by simp [preSum]
  | ns, k + 1, h => by
    have ih := preSum_getD ns k (by omega)
    show preSum (fun i => ns.getD i 0) k + ns.getD k 0 = _
    have hk : k < ns.length := by omega
    rw [ih, List.take_add_one, List.getElem?_eq_getElem hk, List.sum_append]
    simp [hk]

theorem take_snoc {ns : List Int} {k : Nat} (h : k < ns.length) : ns.take (k + 1) = ns.take k ++ [ns.getD k 0] := by
  rw [List.take_add_one, List.getElem?_eq_getElem h]
  simp [h]

theorem BC_sum (ok : X.Ok n) {V : Val} {ns : List Int} (hs : SeqOf σ V (ns.map Val.int)) (h : Q (.int ns.sum) σ) : BC X (.builtin "sum") [V] σ Q := fun s v R rv => by
  cases rv with
  | cons a r =>
    cases r
    obtain ⟨l, items, k, rfl, e, rvs⟩ := hs.open R a
    have hi := rvs.ints
    have hl := PySem.IsL.isList e
    have hne : l ≠ s.heap.objs.size := Nat.ne_of_lt (Heap.lt_size e)
    refine call_sum_walkG (wpAny_pyIter_list hl ?_)
    refine ⟨_, _, _, _, _, _, fun i => ns.getD i 0, rfl, Walks.list (A := X.A.in1) ok.handled s.heap.objs.size l hne items.toArray, ⟨⟨_, Heap.get?_push_size _ rfl, rfl, rfl⟩, hl.push _⟩, ?_, ?_, ?_⟩
    · intro b hb
      have := Heap.lt_size e
      have hb' : b = s.heap.objs.size ∨ b = l := by simpa using hb
      rw [Heap.size_push]
      rcases hb' with rfl | rfl
      · exact Nat.lt_succ_self _
      · exact Nat.lt_succ_of_lt this
    · intro i v hv
      have hv' : items[i]? = some v := by simpa using hv
      have hil : i < ns.length := by
        rw [← hi.length]; exact (List.getElem?_eq_some_iff.mp hv').1
      obtain ⟨t, ht⟩ := hi.get i ns[i] (List.getElem?_eq_getElem hil)
      rw [ht] at hv'
      refine ⟨t, ?_⟩
      cases hv'
      simp [hil]
    · intro h' tk t' hk
      have kp : ∀ b o, s.heap.get? b = some o → h'.get? b = some o := fun b o e => hk b o (fun q => by
        have hb : b = s.heap.objs.size := by simpa using q
        rw [hb, heap_top_none] at e; cases e) (Heap.get?_push_of_some _ e)
      have g := R.grow (t := tk) kp
      refine ⟨_, σ, ?_, g.1, g.2, h⟩
      have es : preSum (fun i => ns.getD i 0) items.toArray.size = ns.sum := by
        rw [show items.toArray.size = ns.length from by simp [hi.length], preSum_getD ns ns.length (Nat.le_refl _), List.take_length]
      rw [es]
      exact .int _ _

def maxL : List Int → Int
  | [] => 0
  | x :: r => r.foldl max x
def minL : List Int → Int
  | [] => 0
  | x :: r => r.foldl min x
theorem maxL_snoc {l : List Int} (h : l ≠ []) (y : Int) : maxL (l ++ [y]) = max (maxL l) y := by
  cases l with
  | nil => exact absurd rfl h
  | cons x r => simp [maxL, List.foldl_append]
theorem minL_snoc {l : List Int} (h : l ≠ []) (y : Int) : minL (l ++ [y]) = min (minL l) y := by
  cases l with
  | nil => exact absurd rfl h
  | cons x r => simp [minL, List.foldl_append]

theorem argBest_max (ns : List Int) : ∀ k, k < ns.length → argBest (fun i j => decide (ns.getD i 0 > ns.getD j 0)) k < ns.length ∧ ns.getD (argBest (fun i j => decide (ns.getD i 0 > ns.getD j 0)) k) 0 = maxL (ns.take (k + 1))
  | 0, h => by
    cases ns with
    | nil => simp at h
    | cons x r => exact ⟨Nat.zero_lt_succ _, by simp [argBest, maxL]⟩
  | k + 1, h => by
    obtain ⟨h1, h2⟩ := argBest_max ns k (by omega)
    have es : maxL (ns.take (k + 1 + 1)) = max (maxL (ns.take (k + 1))) (ns.getD (k + 1) 0) := by
      rw [take_snoc h, maxL_snoc]
      intro q
      have : (ns.take (k + 1)).length = 0 := by rw [q]; rfl
      rw [List.length_take] at this; omega
    show (if _ then k + 1 else _) < _ ∧ ns.getD (if _ then k + 1 else _) 0 = _
    rw [es, ← h2]
    split
    · rename_i hc
      have hc' := of_decide_eq_true hc
      exact ⟨h, by omega⟩
    · rename_i hc
      have hc' : ¬ (ns.getD (k + 1) 0 > ns.getD (argBest (fun i j => decide (ns.getD i 0 > ns.getD j 0)) k) 0) := fun q => hc (decide_eq_true q)
      exact ⟨h1, by omega⟩
theorem argBest_min (ns : List Int) : ∀ k, k < ns.length → argBest (fun i j => decide (ns.getD i 0 < ns.getD j 0)) k < ns.length ∧ ns.getD (argBest (fun i j => decide (ns.getD i 0 < ns.getD j 0)) k) 0 = minL (ns.take (k + 1))
  | 0, h => by
    cases ns with
    | nil => simp at h
    | cons x r => exact ⟨Nat.zero_lt_succ _, by simp [argBest, minL]⟩
  | k + 1, h => by
    obtain ⟨h1, h2⟩ := argBest_min ns k (by omega)
    have es : minL (ns.take (k + 1 + 1)) = min (minL (ns.take (k + 1))) (ns.getD (k + 1) 0) := by
      rw [take_snoc h, minL_snoc]
      intro q
      have : (ns.take (k + 1)).length = 0 := by rw [q]; rfl
      rw [List.length_take] at this; omega
    show (if _ then k + 1 else _) < _ ∧ ns.getD (if _ then k + 1 else _) 0 = _
    rw [es, ← h2]
    split
    · rename_i hc
      have hc' := of_decide_eq_true hc
      exact ⟨h, by omega⟩
    · rename_i hc
      have hc' : ¬ (ns.getD (k + 1) 0 < ns.getD (argBest (fun i j => decide (ns.getD i 0 < ns.getD j 0)) k) 0) := fun q => hc (decide_eq_true q)
      exact ⟨h1, by omega⟩

theorem ints_at {items : List Value} {ns : List Int} (hi : IntsAre items ns) {i : Nat} {v : Value} (hv : items.toArray[i]? = some v) : ∃ t, v = .int (ns.getD i 0) t := by
  have hv' : items[i]? = some v := by simpa using hv
  have hil : i < ns.length := by
    rw [← hi.length]; exact (List.getElem?_eq_some_iff.mp hv').1
  obtain ⟨t, ht⟩ := hi.get i ns[i] (List.getElem?_eq_getElem hil)
  rw [ht] at hv'
  refine ⟨t, ?_⟩
  cases hv'
  simp [hil]

theorem BC_max (ok : X.Ok n) {V : Val} {ns : List Int} (hs : SeqOf σ V (ns.map Val.int)) (h0 : ns ≠ []) (h : Q (.int (maxL ns)) σ) : BC X (.builtin "max") [V] σ Q := fun s v R rv => by
  cases rv with
  | cons a r =>
    cases r
    obtain ⟨l, items, k, rfl, e, rvs⟩ := hs.open R a
    have hi := rvs.ints
    have hl := PySem.IsL.isList e
    have hne : l ≠ s.heap.objs.size := Nat.ne_of_lt (Heap.lt_size e)
    have hlen : items.toArray.size = ns.length := by simp [hi.length]
    have hpos : 0 < ns.length := List.length_pos_iff.mpr h0
    refine call_max_walk (wpAny_pyIter_list hl ?_)
    refine ⟨_, _, _, _, _, _, fun i j => decide (ns.getD i 0 > ns.getD j 0), rfl, Walks.list (A := X.A.in1) ok.handled s.heap.objs.size l hne items.toArray, ⟨⟨_, Heap.get?_push_size _ rfl, rfl, rfl⟩, hl.push _⟩, ?_, by rw [hlen]; exact hpos, ?_, ?_⟩
    · intro b hb
      have := Heap.lt_size e
      have hb' : b = s.heap.objs.size ∨ b = l := by simpa using hb
      rw [Heap.size_push]
      rcases hb' with rfl | rfl
      · exact Nat.lt_succ_self _
      · exact Nat.lt_succ_of_lt this
    · intro i j vi vj s' Q' E' hvi hvj hQ
      obtain ⟨t, rfl⟩ := ints_at hi hvi
      obtain ⟨u, rfl⟩ := ints_at hi hvj
      exact (show wpAny _ _ (compareOp .Gt _ _) _ _ _ from PyProof.Rows.gt_int hQ)
    · intro v h' tk hv hk
      have kp : ∀ b o, s.heap.get? b = some o → h'.get? b = some o := fun b o e => hk b o (fun q => by
        have hb : b = s.heap.objs.size := by simpa using q
        rw [hb, heap_top_none] at e; cases e) (Heap.get?_push_of_some _ e)
      have g := R.grow (t := tk) kp
      obtain ⟨t, rfl⟩ := ints_at hi hv
      refine ⟨_, σ, ?_, g.1, g.2, h⟩
      rw [hlen, (argBest_max ns (ns.length - 1) (by omega)).2, show ns.length - 1 + 1 = ns.length from by omega, List.take_length]
      exact .int _ _
theorem BC_min (ok : X.Ok n) {V : Val} {ns : List Int} (hs : SeqOf σ V (ns.map Val.int)) (h0 : ns ≠ []) (h : Q (.int (minL ns)) σ) : BC X (.builtin "min") [V] σ Q := fun s v R rv => by
  cases rv with
  | cons a r =>
    cases r
    obtain ⟨l, items, k, rfl, e, rvs⟩ := hs.open R a
    have hi := rvs.ints
    have hl := PySem.IsL.isList e
    have hne : l ≠ s.heap.objs.size := Nat.ne_of_lt (Heap.lt_size e)
    have hlen : items.toArray.size = ns.length := by simp [hi.length]
    have hpos : 0 < ns.length := List.length_pos_iff.mpr h0
    refine call_min_walk (wpAny_pyIter_list hl ?_)
    refine ⟨_, _, _, _, _, _, fun i j => decide (ns.getD i 0 < ns.getD j 0), rfl, Walks.list (A := X.A.in1) ok.handled s.heap.objs.size l hne items.toArray, ⟨⟨_, Heap.get?_push_size _ rfl, rfl, rfl⟩, hl.push _⟩, ?_, by rw [hlen]; exact hpos, ?_, ?_⟩
    · intro b hb
      have := Heap.lt_size e
      have hb' : b = s.heap.objs.size ∨ b = l := by simpa using hb
      rw [Heap.size_push]
      rcases hb' with rfl | rfl
      · exact Nat.lt_succ_self _
      · exact Nat.lt_succ_of_lt this
    · intro i j vi vj s' Q' E' hvi hvj hQ
      obtain ⟨t, rfl⟩ := ints_at hi hvi
      obtain ⟨u, rfl⟩ := ints_at hi hvj
      exact (show wpAny _ _ (compareOp .Lt _ _) _ _ _ from PyProof.Rows.lt_int hQ)
    · intro v h' tk hv hk
      have kp : ∀ b o, s.heap.get? b = some o → h'.get? b = some o := fun b o e => hk b o (fun q => by
        have hb : b = s.heap.objs.size := by simpa using q
        rw [hb, heap_top_none] at e; cases e) (Heap.get?_push_of_some _ e)
      have g := R.grow (t := tk) kp
      obtain ⟨t, rfl⟩ := ints_at hi hv
      refine ⟨_, σ, ?_, g.1, g.2, h⟩
      rw [hlen, (argBest_min ns (ns.length - 1) (by omega)).2, show ns.length - 1 + 1 = ns.length from by omega, List.take_length]
      exact .int _ _

/-- of two ints -/
theorem BC_max2 (ok : X.Ok n) {a b : Int} (h : Q (.int (max a b)) σ) : BC X (.builtin "max") [.int a, .int b] σ Q := fun s v R rv => by
  cases rv with
  | cons ra r => cases r with | cons rb r =>
    cases r
    obtain ⟨t, rfl⟩ := ra.int_inv; obtain ⟨u, rfl⟩ := rb.int_inv
    have hT : (s.heap.push { cls := .type "tuple", data := .seq #[Value.int a t, Value.int b u] }).IsTuple s.heap.objs.size #[Value.int a t, Value.int b u] := ⟨_, Heap.get?_push_size _ rfl, rfl, _, rfl⟩
    have hi : IntsAre [Value.int a t, Value.int b u] [a, b] := .cons _ _ (.cons _ _ .nil)
    refine call_max_two (wpAny_pyIter_tuple hT ?_)
    have hne : s.heap.objs.size ≠ (s.heap.push { cls := .type "tuple", data := .seq #[Value.int a t, Value.int b u] }).objs.size := by rw [Heap.size_push]; exact Nat.ne_of_lt (Nat.lt_succ_self _)
    refine ⟨_, _, _, _, _, _, fun i j => decide ([a, b].getD i 0 > [a, b].getD j 0), rfl, Walks.tuple (A := X.A.in1) ok.handled _ s.heap.objs.size hne #[Value.int a t, Value.int b u], ⟨⟨_, Heap.get?_push_size _ rfl, rfl, rfl⟩, hT.push _⟩, ?_, by simp, ?_, ?_⟩
    · intro c hc
      have hc' : c = (s.heap.push { cls := .type "tuple", data := .seq #[Value.int a t, Value.int b u] }).objs.size ∨ c = s.heap.objs.size := by simpa using hc
      dsimp only at hc' ⊢
      rw [Heap.size_push] at hc'
      rw [Heap.size_push, Heap.size_push]
      rcases hc' with rfl | rfl
      · exact Nat.lt_succ_self _
      · exact Nat.lt_succ_of_lt (Nat.lt_succ_self _)
    · intro i j vi vj s' Q' E' hvi hvj hQ
      obtain ⟨t, rfl⟩ := ints_at hi hvi
      obtain ⟨u, rfl⟩ := ints_at hi hvj
      exact (show wpAny _ _ (compareOp .Gt _ _) _ _ _ from PyProof.Rows.gt_int hQ)
    · intro v h' tk hv hk
      have kp : ∀ b o, s.heap.get? b = some o → h'.get? b = some o := fun c o e => hk c o (fun q => by
        have hb := List.mem_singleton.mp q
        try dsimp only at hb
        rw [Heap.size_push] at hb
        have := Heap.lt_size e
        rw [hb] at this
        exact absurd this (Nat.not_lt.mpr (Nat.le_succ _))) (Heap.get?_push_of_some _ (Heap.get?_push_of_some _ e))
      have g := R.grow (t := tk) kp
      obtain ⟨t, rfl⟩ := ints_at hi hv
      refine ⟨_, σ, ?_, g.1, g.2, h⟩
      have := (argBest_max [a, b] 1 (by simp)).2
      simp only [List.size_toArray, List.length_cons, List.length_nil] at *
      rw [this]
      simpa [maxL] using RV.int (h := h') (mem := σ.mem) (max a b) t
theorem BC_min2 (ok : X.Ok n) {a b : Int} (h : Q (.int (min a b)) σ) : BC X (.builtin "min") [.int a, .int b] σ Q := fun s v R rv => by
  cases rv with
  | cons ra r => cases r with | cons rb r =>
    cases r
    obtain ⟨t, rfl⟩ := ra.int_inv; obtain ⟨u, rfl⟩ := rb.int_inv
    have hT : (s.heap.push { cls := .type "tuple", data := .seq #[Value.int a t, Value.int b u] }).IsTuple s.heap.objs.size #[Value.int a t, Value.int b u] := ⟨_, Heap.get?_push_size _ rfl, rfl, _, rfl⟩
    have hi : IntsAre [Value.int a t, Value.int b u] [a, b] := .cons _ _ (.cons _ _ .nil)
    refine call_min_two (wpAny_pyIter_tuple hT ?_)
    have hne : s.heap.objs.size ≠ (s.heap.push { cls := .type "tuple", data := .seq #[Value.int a t, Value.int b u] }).objs.size := by rw [Heap.size_push]; exact Nat.ne_of_lt (Nat.lt_succ_self _)
    refine ⟨_, _, _, _, _, _, fun i j => decide ([a, b].getD i 0 < [a, b].getD j 0), rfl, Walks.tuple (A := X.A.in1) ok.handled _ s.heap.objs.size hne #[Value.int a t, Value.int b u], ⟨⟨_, Heap.get?_push_size _ rfl, rfl, rfl⟩, hT.push _⟩, ?_, by simp, ?_, ?_⟩
    · intro c hc
      have hc' : c = (s.heap.push { cls := .type "tuple", data := .seq #[Value.int a t, Value.int b u] }).objs.size ∨ c = s.heap.objs.size := by simpa using hc
      dsimp only at hc' ⊢
      rw [Heap.size_push] at hc'
      rw [Heap.size_push, Heap.size_push]
      rcases hc' with rfl | rfl
      · exact Nat.lt_succ_self _
      · exact Nat.lt_succ_of_lt (Nat.lt_succ_self _)
    · intro i j vi vj s' Q' E' hvi hvj hQ
      obtain ⟨t, rfl⟩ := ints_at hi hvi
      obtain ⟨u, rfl⟩ := ints_at hi hvj
      exact (show wpAny _ _ (compareOp .Lt _ _) _ _ _ from PyProof.Rows.lt_int hQ)
    · intro v h' tk hv hk
      have kp : ∀ b o, s.heap.get? b = some o → h'.get? b = some o := fun c o e => hk c o (fun q => by
        have hb := List.mem_singleton.mp q
        try dsimp only at hb
        rw [Heap.size_push] at hb
        have := Heap.lt_size e
        rw [hb] at this
        exact absurd this (Nat.not_lt.mpr (Nat.le_succ _))) (Heap.get?_push_of_some _ (Heap.get?_push_of_some _ e))
      have g := R.grow (t := tk) kp
      obtain ⟨t, rfl⟩ := ints_at hi hv
      refine ⟨_, σ, ?_, g.1, g.2, h⟩
      have := (argBest_min [a, b] 1 (by simp)).2
      simp only [List.size_toArray, List.length_cons, List.length_nil] at *
      rw [this]
      simpa [minL] using RV.int (h := h') (mem := σ.mem) (min a b) t
theorem BC_abs {a : Int} (h : Q (.int a.natAbs) σ) : BC X (.builtin "abs") [.int a] σ Q := fun s v R rv => by
  cases rv with
  | cons ra r =>
    cases r
    obtain ⟨t, rfl⟩ := ra.int_inv
    refine PyProof.Rows.call_abs_int fun u tk => ?_
    have g := R.toks (t := tk)
    refine ⟨_, σ, ?_, g.1, g.2, h⟩
    rw [show (if a < 0 then -a else a) = (a.natAbs : Int) from by split <;> omega]
    exact .int _ _
end

end Mine
end
section
open PySem PySem.W PyProof.Rows PySem.Calls
namespace Mine

section
variable {X : Cx} {σ : St} {n : Nat} {pos p : Pos}

/-! a built-in type, called -/
theorem call_type_run (ok : X.Ok n) {x : Str} {T : String} {e : Expr} {args : List Expr} {s : Shared} {K : List Val → St → Prop} (N : BName X x (.type T)) (he : starEach (e :: args) X.env = (false, eval e X.env) :: starEach args X.env)
    (hp : (backTo pos (starEach args X.env)).any (·.1) = false) (h : AEs X pos (e :: args) σ K) (R : Rep X σ s) {Q' : Value → Shared → Prop}
    (hk : ∀ vs Vs σ' s', RVs s'.heap σ'.mem vs Vs → Rep X σ' s' → Ext X σ s σ' s' → K Vs σ' → wpAny X.M X.A (call (.type T) vs) Q' (fun _ _ => False) s') :
    wpAny X.M X.A (eval (.Call (.Name x p) (e :: args) [] pos) X.env) Q' (fun _ _ => False) s := by
  refine PyProof.Rows.Call_ (name_builtin ok R N.kind N.dbg N.free N.ne N.boot ?_)
  have h' : wpAny X.M X.A (spliced (backTo pos (starEach (e :: args) X.env))) (fun vs s' => wpAny X.M X.A (call (.type T) ([] ++ vs) []) Q' (fun _ _ => False) s') (fun _ _ => False) s := by
    refine wpAny_mono (h s R) ?_ fun _ _ e => e
    rintro vs s1 ⟨Vs, σ1, rvs, R1, x1, q⟩
    exact hk vs Vs σ1 s1 rvs R1 x1 q
  rw [he] at h' ⊢
  exact PyProof.Rows.callWith_type (by show (false || (backTo pos (starEach args X.env)).any (·.1)) = false; rw [hp]; rfl) (evalArgs_plain h')

theorem AE_type (ok : X.Ok n) {x : Str} {T : String} {e : Expr} {args : List Expr} {Q : Val → St → Prop} (N : BName X x (.type T)) (he : starEach (e :: args) X.env = (false, eval e X.env) :: starEach args X.env)
    (hp : (backTo pos (starEach args X.env)).any (·.1) = false) (h : AEs X pos (e :: args) σ (fun Vs σ1 => BC X (.type T) Vs σ1 Q)) : AE X (.Call (.Name x p) (e :: args) [] pos) σ Q := fun s R =>
  call_type_run ok N he hp h R fun vs Vs σ' s' rvs R' x' hc => (hc s' vs R' rvs).then R' x'

/-- list(xs) -/
theorem BC_listcopy {V : Val} {vs : List Val} {Q : Val → St → Prop} (hs : SeqOf σ V vs) (hl : vs.length ≤ 16777216) (h : Made σ vs Q) : BC X (.type "list") [V] σ Q := fun s v R rv => by
  cases rv with
  | cons a r =>
    cases r
    obtain ⟨l, items, k, rfl, e, rvs⟩ := hs.open R a
    refine call_list_seq l (T := "list") (.inl rfl) e rfl rfl (fun h' c' hk hn => ?_) (sz (by simpa [rvs.length] using hl))
    exact h.take (t := s.toks) R (heap_top_none _) hk hn rvs

/-! ranges -/
def rangeL (a b c : Int) : List Int := (List.range (Builtin.Range.rangeSize a b c).toNat).map fun (i : Nat) => a + (i : Int) * c

theorem rangeSize_nonneg (a b c : Int) (hc : c ≠ 0) : 0 ≤ Builtin.Range.rangeSize a b c := by
  unfold Builtin.Range.rangeSize
  split
  · split
    · have : 0 ≤ (b - a - 1) / c := Int.ediv_nonneg (by omega) (by omega)
      omega
    · exact Int.le_refl _
  · split
    · have : 0 ≤ (a - b - 1) / -c := Int.ediv_nonneg (by omega) (by omega)
      omega
    · exact Int.le_refl _

theorem touch_one {s : Shared} {h' : Heap} {t : Nat} {I : Addr} (R : Rep X σ s) (hk : ∀ b o, b ≠ I → s.heap.get? b = some o → h'.get? b = some o) (h1 : X.B.h₁.get? I = none) (hL : I ≠ X.f.L) (hm : σ.mem I = none)
    (ho : ∀ o, s.heap.get? I = some o → ¬ isSeqObj o ∧ ∀ v, o.data ≠ .cell v) : Rep X σ { s with heap := h', toks := t } :=
  R.touch (W := (· = I)) (fun b o q e => hk b o q e) fun b q => by subst q; exact ⟨h1, hL, hm, ho⟩

theorem It.range (ok : X.Ok n) {tg : Expr} (ht : ∃ x p, tg = .Name x p) {I : Addr} {a c : Int} {m : Nat} (hI1 : X.B.h₁.get? I = none) (hIL : I ≠ X.f.L) (hIo : I ∉ X.f.own) :
    It X tg I (· = I) (fun i σ h => IsRangeIter h I (a + (i : Int) * c) ((m : Int) - i) c ∧ σ.mem I = none) ((List.range m).map fun (i : Nat) => Val.int (a + (i : Int) * c)) (fun _ => True) where
  frame := by
    rintro i σ s σ' s' ⟨hit, hm⟩ R x R' _
    exact ⟨x.keep I _ hit hm hIL hIo, x.mem I _ hit hm⟩
  turn := by
    rintro i σ s W R ⟨hit, hm⟩ hV
    obtain ⟨x, p, rfl⟩ := ht
    have him : i < m := by
      have := (List.getElem?_eq_some_iff.mp hV).1
      simpa using this
    have eW : W = Val.int (a + (i : Int) * c) := by
      rw [List.getElem?_map, List.getElem?_range him] at hV
      exact (Option.some.inj hV).symm
    subst eW
    refine wpAny_pyNext_range_item hit (by omega) fun h' hit' hs' => ⟨_, rfl, wpAny_pure ?_⟩
    refine ⟨h', s.toks + 1, rfl, touch_one R (fun b o q e => hs'.extBut b o q e) hI1 hIL hm (fun o ho => ?_), .int _ _, ⟨?_, hm⟩, fun b o q e => hs'.extBut b o q e⟩
    · rw [hit] at ho; cases ho
      exact ⟨(fun ⟨_, _, q⟩ => nomatch q), (fun v q => nomatch q)⟩
    · have e1 : a + ((i + 1 : Nat) : Int) * c = a + (i : Int) * c + c := by push_cast; rw [Int.add_mul, Int.one_mul, Int.add_assoc]
      have e2 : (m : Int) - ((i + 1 : Nat) : Int) = (m : Int) - (i : Int) - 1 := by push_cast; omega
      rw [e1, e2]; exact hit'
  done := by
    rintro σ s R ⟨hit, hm⟩
    refine wpAny_pyNext_range_end ok.handled hit (by simp) fun h' hx => ⟨rfl, h', s.toks, rfl, touch_one R (fun b o q e => hx b o q e) hI1 hIL hm (fun o ho => ?_), fun b o q e => hx b o q e⟩
    rw [hit] at ho; cases ho
    exact ⟨(fun ⟨_, _, q⟩ => nomatch q), (fun v q => nomatch q)⟩
  self := fun i σ s ⟨hit, _⟩ => wpAny_pyIter_rangeiter hit ⟨rfl, rfl⟩

/-- a range object at hand -/
theorem range_iter {tg : Expr} (ht : ∃ x p, tg = .Name x p) {a b c : Int} {t u v : Tok} {r : Addr} {s s' : Shared} {σ' : St} {K : List Val → (St → Prop) → St → Prop} (hc : c ≠ 0) (hsm : Builtin.Range.small a b c = true)
    (R' : Rep X σ' s') (x' : Ext X σ s σ' s') (hr : IsRange s'.heap r a b c t u v) (hK : K ((rangeL a b c).map Val.int) (fun _ => True) σ') :
    wpAny X.M X.A (pyIter (.ref r)) (fun it s2 => Walking X tg σ s K it s2) (fun _ _ => False) s' := by
  refine wpAny_pyIter_range hr hsm ?_
  have g := R'.grow (h' := s'.heap.push { cls := .type "range_iterator", data := .fields #[rawInt a, rawInt (Builtin.Range.rangeSize a b c), rawInt c] }) (t := s'.toks) fun b o e => Heap.get?_push_of_some _ e
  have tp := R'.top
  have hn : ((Builtin.Range.rangeSize a b c).toNat : Int) = Builtin.Range.rangeSize a b c := Int.toNat_of_nonneg (rangeSize_nonneg a b c hc)
  refine ⟨s'.heap.objs.size, (· = s'.heap.objs.size), _, _, _, σ', rfl, fun X' eB eA ⟨n', ok'⟩ hd => It.range ok' ht (a := a) (c := c) (m := (Builtin.Range.rangeSize a b c).toNat) (eB ▸ tp.1) (hd _ rfl).1 (hd _ rfl).2, ⟨?_, tp.2.2.2⟩, g.1, x'.trans R' g.2, ?_, trivial, ?_⟩
  · show IsRangeIter _ _ _ _ _
    rw [hn]
    have := Heap.get?_push_size s'.heap (o := { cls := .type "range_iterator", data := .fields #[rawInt a, rawInt (Builtin.Range.rangeSize a b c), rawInt c] }) rfl
    simpa using this
  · rintro b rfl
    refine ⟨?_, tp.2.1, tp.2.2.1, _, Heap.get?_push_size _ rfl, (fun ⟨_, _, q⟩ => nomatch q), (fun v q => nomatch q)⟩
    cases q : s.heap.get? s'.heap.objs.size with
    | none => rfl
    | some o =>
      obtain ⟨o', e'⟩ := x'.live _ o q
      rw [heap_top_none] at e'; cases e'
  · have e : (rangeL a b c).map Val.int = (List.range (Builtin.Range.rangeSize a b c).toNat).map fun (i : Nat) => Val.int (a + (i : Int) * c) := by
      unfold rangeL; rw [List.map_map]; rfl
    rw [← e]; exact hK

theorem pushed {s : Shared} {o : Obj} {t : Nat} (R : Rep X σ s) : Rep X σ { s with heap := s.heap.push o, toks := t } ∧ Ext X σ s σ { s with heap := s.heap.push o, toks := t } := R.grow fun _ _ e => Heap.get?_push_of_some _ e

theorem AI_range1 (ok : X.Ok n) {tg e : Expr} {K : List Val → (St → Prop) → St → Prop} (ht : ∃ x p, tg = .Name x p) (N : BName X (Str.ofString "range") (.type "range"))
    (he : starEach [e] X.env = [(false, eval e X.env)]) (h : AE X e σ (fun V σ1 => ∃ b, V = .int b ∧ Builtin.Range.small 0 b 1 = true ∧ K ((rangeL 0 b 1).map Val.int) (fun _ => True) σ1)) :
    AI X tg (.Call (.Name (Str.ofString "range") p) [e] [] pos) σ K := fun s R => by
  refine call_type_run (K := fun Vs σ1 => ∃ b, Vs = [.int b] ∧ Builtin.Range.small 0 b 1 = true ∧ K ((rangeL 0 b 1).map Val.int) (fun _ => True) σ1) ok N he (by rfl) (AEs_cons he (h.mono fun V σ1 ⟨b, hV, h1, h2⟩ => AEs_nil ⟨b, by rw [hV], h1, h2⟩)) R ?_
  rintro vs Vs σ' s' rvs R' x' ⟨b, rfl, hsm, hK⟩
  cases rvs with
  | cons rv r =>
    cases r
    obtain ⟨t, rfl⟩ := rv.int_inv
    refine call_range_1 ?_
    have g := pushed (o := { cls := .type "range", data := .fields #[.int 0 s'.toks, .int b t, .int 1 (s'.toks + 1)] }) (t := s'.toks + 1 + 1) R'
    exact range_iter ht (by decide) hsm g.1 (x'.trans R' g.2) (Heap.get?_push_size _ rfl) hK

theorem AI_range2 (ok : X.Ok n) {tg e e' : Expr} {K : List Val → (St → Prop) → St → Prop} (ht : ∃ x p, tg = .Name x p) (N : BName X (Str.ofString "range") (.type "range"))
    (he : starEach [e, e'] X.env = (false, eval e X.env) :: starEach [e'] X.env) (he' : starEach [e'] X.env = [(false, eval e' X.env)])
    (h : AE X e σ (fun V σ1 => AE X e' σ1 (fun V' σ2 => ∃ a b, V = .int a ∧ V' = .int b ∧ Builtin.Range.small a b 1 = true ∧ K ((rangeL a b 1).map Val.int) (fun _ => True) σ2))) :
    AI X tg (.Call (.Name (Str.ofString "range") p) [e, e'] [] pos) σ K := fun s R => by
  refine call_type_run (K := fun Vs σ1 => ∃ a b, Vs = [.int a, .int b] ∧ Builtin.Range.small a b 1 = true ∧ K ((rangeL a b 1).map Val.int) (fun _ => True) σ1) ok N he (by rw [he']; rfl)
    (AEs_cons he (h.mono fun V σ1 h1 => AEs_cons he' (h1.mono fun V' σ2 ⟨a, b, hV, hV', h2, h3⟩ => AEs_nil ⟨a, b, by rw [hV, hV'], h2, h3⟩))) R ?_
  rintro vs Vs σ' s' rvs R' x' ⟨a, b, rfl, hsm, hK⟩
  cases rvs with
  | cons rv r =>
    cases r with
    | cons rw r =>
      cases r
      obtain ⟨t, rfl⟩ := rv.int_inv
      obtain ⟨u, rfl⟩ := rw.int_inv
      refine call_range_2 ?_
      have g := pushed (o := { cls := .type "range", data := .fields #[.int a t, .int b u, .int 1 s'.toks] }) (t := s'.toks + 1) R'
      exact range_iter ht (by decide) hsm g.1 (x'.trans R' g.2) (Heap.get?_push_size _ rfl) hK

theorem AI_range3 (ok : X.Ok n) {tg e e' e'' : Expr} {K : List Val → (St → Prop) → St → Prop} (ht : ∃ x p, tg = .Name x p) (N : BName X (Str.ofString "range") (.type "range"))
    (he : starEach [e, e', e''] X.env = (false, eval e X.env) :: starEach [e', e''] X.env) (he' : starEach [e', e''] X.env = (false, eval e' X.env) :: starEach [e''] X.env) (he'' : starEach [e''] X.env = [(false, eval e'' X.env)])
    (h : AE X e σ (fun V σ1 => AE X e' σ1 (fun V' σ2 => AE X e'' σ2 (fun V'' σ3 => ∃ a b c, V = .int a ∧ V' = .int b ∧ V'' = .int c ∧ c ≠ 0 ∧ Builtin.divisionGoesByPylong (b - a) c = false ∧ Builtin.Range.small a b c = true ∧ K ((rangeL a b c).map Val.int) (fun _ => True) σ3)))) :
    AI X tg (.Call (.Name (Str.ofString "range") p) [e, e', e''] [] pos) σ K := fun s R => by
  refine call_type_run (K := fun Vs σ1 => ∃ a b c, Vs = [.int a, .int b, .int c] ∧ c ≠ 0 ∧ Builtin.divisionGoesByPylong (b - a) c = false ∧ Builtin.Range.small a b c = true ∧ K ((rangeL a b c).map Val.int) (fun _ => True) σ1) ok N he (by rw [he', he'']; rfl)
    (AEs_cons he (h.mono fun V σ1 h1 => AEs_cons he' (h1.mono fun V' σ2 h2 => AEs_cons he'' (h2.mono fun V'' σ3 ⟨a, b, c, hV, hV', hV'', h2, h3⟩ => AEs_nil ⟨a, b, c, by rw [hV, hV', hV''], h2, h3⟩)))) R ?_
  rintro vs Vs σ' s' rvs R' x' ⟨a, b, c, rfl, hc, hpl, hsm, hK⟩
  cases rvs with
  | cons rv r =>
    cases r with
    | cons rw r =>
      cases r with
      | cons rz r =>
        cases r
        obtain ⟨t, rfl⟩ := rv.int_inv
        obtain ⟨u, rfl⟩ := rw.int_inv
        obtain ⟨v, rfl⟩ := rz.int_inv
        refine call_range_3 hc ?_ (.inl hpl)
        have g := pushed (o := { cls := .type "range", data := .fields #[.int a t, .int b u, .int c v] }) (t := s'.toks) R'
        exact range_iter ht hc hsm g.1 (x'.trans R' g.2) (Heap.get?_push_size _ rfl) hK

theorem small_1 {a b : Int} (ha : -(2 ^ 40) ≤ a) (ha' : a ≤ 2 ^ 40) (hb : -(2 ^ 40) ≤ b) (hb' : b ≤ 2 ^ 40) : Builtin.Range.small a b 1 = true := by
  have e : Builtin.Range.rangeSize a b 1 = if a < b then b - a else 0 := by
    unfold Builtin.Range.rangeSize
    rw [if_pos (by decide)]
    split
    · rw [Int.ediv_one]; omega
    · rfl
  unfold Builtin.Range.small
  rw [e]
  simp only [Builtin.Range.rangeFitsLong, Bool.and_eq_true, Bool.or_eq_true, decide_eq_true_eq, beq_iff_eq]
  split <;> simp <;> omega

theorem rangeL_1 (a b : Int) : rangeL a b 1 = (List.range (b - a).toNat).map fun (i : Nat) => a + (i : Int) := by
  have e : (Builtin.Range.rangeSize a b 1).toNat = (b - a).toNat := by
    unfold Builtin.Range.rangeSize
    rw [if_pos (by decide)]
    split
    · rw [Int.ediv_one]; congr 1; omega
    · simp; omega
  unfold rangeL
  rw [e]
  simp

/-! enumerate -/
theorem It.enum (ok : X.Ok n) {tg : Expr} (ht : ∃ ts k p, tg = .Tuple ts k p) {I J l : Addr} {V : Val} {vs : List Val} (hIJ : I ≠ J) (hI1 : X.B.h₁.get? I = none) (hIL : I ≠ X.f.L) (hIo : I ∉ X.f.own) (hJ1 : X.B.h₁.get? J = none) (hJL : J ≠ X.f.L) (hJo : J ∉ X.f.own) :
    It X tg I (fun b => b = I ∨ b = J) (fun i σ h => (∃ old, IsEnum h I J i old) ∧ h.IsListIter J l i ∧ σ.mem I = none ∧ σ.mem J = none ∧ RV h σ.mem (.ref l) V ∧ SeqOf σ V vs) (vs.mapIdx fun i v => Val.tup [.int i, v]) (fun σ => SeqOf σ V vs) where
  frame := by
    rintro i σ s σ' s' ⟨⟨old, he⟩, ⟨o, ho, hc, hd⟩, hm, hm2, hr, _⟩ R x R' hst
    exact ⟨⟨old, x.keep I _ he hm hIL hIo⟩, ⟨o, x.keep J o ho hm2 hJL hJo, hc, hd⟩, x.mem I _ he hm, x.mem J o ho hm2, x.rv R hr, hst⟩
  turn := by
    rintro i σ s W R ⟨⟨old, he⟩, hit, hm, hm2, hr, hsq⟩ hV'
    obtain ⟨ts, k, p, rfl⟩ := ht
    obtain ⟨a, items, kk, ea, e, rvs⟩ := hsq.open R hr
    cases ea
    rw [List.getElem?_mapIdx] at hV'
    obtain ⟨U, hU, rfl⟩ := Option.map_eq_some_iff.mp hV'
    obtain ⟨v, hv, rv⟩ := rvs.get hU
    refine wpAny_pyNext_enum_item he hit (PySem.IsL.isList e) (x := v) (by simpa using hv) hIJ fun h' ho hit' hT hsz hk => ⟨_, rfl, wpAny_letOwnedTupleGo_enum ho fun h2 he2 hs2 => ?_⟩
    have oI : ∀ o, s.heap.get? I = some o → ¬ isSeqObj o ∧ ∀ v, o.data ≠ .cell v := fun o h => by
      rw [he] at h; cases h; exact ⟨(fun ⟨_, _, q⟩ => nomatch q), (fun v q => nomatch q)⟩
    have oJ : ∀ o, s.heap.get? J = some o → ¬ isSeqObj o ∧ ∀ v, o.data ≠ .cell v := fun o h => by
      obtain ⟨o', ho', _, hd⟩ := hit
      rw [h] at ho'; cases ho'
      exact ⟨(fun ⟨_, _, q⟩ => absurd (hd.symm.trans q) nofun), (fun v q => absurd (hd.symm.trans q) nofun)⟩
    have kp : ∀ b o, ¬ (b = I ∨ b = J) → s.heap.get? b = some o → h2.get? b = some o := fun b o q e => hs2.extBut b o (fun z => q (.inl z)) (hk b o (fun z => q (.inl z)) (fun z => q (.inr z)) e)
    have ks : ∀ b o, s.heap.get? b = some o → σ.mem b = none → isSeqObj o → h2.get? b = some o ∧ σ.mem b = none := fun b o e m q => ⟨kp b o (fun z => by
      rcases z with rfl | rfl
      · exact (oI o e).1 q
      · exact (oJ o e).1 q) e, m⟩
    have R' : Rep X σ { s with heap := h2, toks := s.toks + 1 } := R.touch (W := fun b => b = I ∨ b = J) kp fun b q => by
      rcases q with rfl | rfl
      · exact ⟨hI1, hIL, hm, oI⟩
      · exact ⟨hJ1, hJL, hm2, oJ⟩
    have hTI : s.heap.objs.size ≠ I := fun q => absurd (Heap.lt_size he) (by rw [← q]; exact Nat.lt_irrefl _)
    have hIt2 : h2.IsListIter J l (i + 1) := by
      obtain ⟨o, a1, a2⟩ := hit'
      exact ⟨o, hs2.extBut J o (Ne.symm hIJ) a1, a2⟩
    refine ⟨h2, s.toks + 1, rfl, R', ?_, ⟨⟨v, ?_⟩, hIt2, hm, hm2, hr.mono ks, hsq⟩, kp⟩
    · exact .tup (items := [.int i s.toks, v]) (n := 0) (hs2.extBut _ _ hTI hT) R.top.2.2.2 (.cons (.int _ _) (.cons (rv.mono ks) .nil))
    · simpa using he2
  done := by
    rintro σ s R ⟨⟨old, he⟩, hit, hm, hm2, hr, hsq⟩
    obtain ⟨a, items, kk, ea, e, rvs⟩ := hsq.open R hr
    cases ea
    have oJ : ∀ o, s.heap.get? J = some o → ¬ isSeqObj o ∧ ∀ v, o.data ≠ .cell v := fun o h => by
      obtain ⟨o', ho', _, hd⟩ := hit
      rw [h] at ho'; cases ho'
      exact ⟨(fun ⟨_, _, q⟩ => absurd (hd.symm.trans q) nofun), (fun v q => absurd (hd.symm.trans q) nofun)⟩
    refine wpAny_pyNext_enum_end ok.handled he hit (PySem.IsL.isList e) (by simp [rvs.length]) fun h' hx => ⟨rfl, h', s.toks, rfl, touch_one R (fun b o q e => hx b o q e) hJ1 hJL hm2 oJ, fun b o q e => hx b o (fun z => q (.inr z)) e⟩
  self := fun i σ s ⟨⟨old, he⟩, _⟩ => wpAny_pyIter_enum he ⟨rfl, rfl⟩

theorem AI_enum (ok : X.Ok n) {tg e : Expr} {K : List Val → (St → Prop) → St → Prop} (ht : ∃ ts k p, tg = .Tuple ts k p) (N : BName X (Str.ofString "enumerate") (.type "enumerate"))
    (he : starEach [e] X.env = [(false, eval e X.env)]) (h : AE X e σ (fun V σ1 => ∃ vs, SeqOf σ1 V vs ∧ K (vs.mapIdx fun i v => Val.tup [.int i, v]) (fun σ' => SeqOf σ' V vs) σ1)) :
    AI X tg (.Call (.Name (Str.ofString "enumerate") p) [e] [] pos) σ K := fun s R => by
  refine call_type_run (K := fun Vs σ1 => ∃ V vs, Vs = [V] ∧ SeqOf σ1 V vs ∧ K (vs.mapIdx fun i v => Val.tup [.int i, v]) (fun σ' => SeqOf σ' V vs) σ1) ok N he (by rfl) (AEs_cons he (h.mono fun V σ1 ⟨vs, h1, h2⟩ => AEs_nil ⟨V, vs, rfl, h1, h2⟩)) R ?_
  rintro vs' Vs σ' s' rvs R' x' ⟨V, vs, rfl, hsq, hK⟩
  cases rvs with
  | cons rv r =>
    cases r
    obtain ⟨l, items, k, rfl, e, rvs⟩ := hsq.open R' rv
    refine call_enumerate_list (PySem.IsL.isList e) fun h' hen hit hsz hk => ?_
    refine wpAny_pyIter_enum hen ?_
    have g := R'.grow (t := s'.toks) hk
    have notlive : ∀ c, s'.heap.objs.size ≤ c → s'.heap.get? c = none := fun c hc => Heap.get?_none_of_le hc
    have fI := R'.fresh (notlive (s'.heap.objs.size + 1) (Nat.le_succ _))
    have tp := R'.top
    have hL : s'.heap.objs.size + 1 ≠ X.f.L := fun q => by
      obtain ⟨m, ⟨o, _, _, ho, _⟩, _⟩ := R'.env
      rw [← q, notlive _ (Nat.le_succ _)] at ho; cases ho
    have hO : s'.heap.objs.size + 1 ∉ X.f.own := fun q => by
      obtain ⟨m, _, _, hc, _⟩ := R'.env
      obtain ⟨_, v, o', ho', _⟩ := hc _ (.inl q)
      rw [notlive _ (Nat.le_succ _)] at ho'; cases ho'
    refine ⟨s'.heap.objs.size + 1, (fun b => b = s'.heap.objs.size + 1 ∨ b = s'.heap.objs.size), _, _, _, σ', rfl, fun X' eB eA ⟨n', ok'⟩ hd => It.enum ok' ht (l := l) (V := V) (vs := vs) (Nat.succ_ne_self _) (eB ▸ fI.2) (hd _ (.inl rfl)).1 (hd _ (.inl rfl)).2 (eB ▸ tp.1) (hd _ (.inr rfl)).1 (hd _ (.inr rfl)).2,
      ⟨⟨_, hen⟩, hit, fI.1, tp.2.2.2, g.2.rv R' rv, hsq⟩, g.1, x'.trans R' g.2, ?_, hsq, hK⟩
    intro b hb
    refine ⟨?_, ?_⟩
    · cases q : s.heap.get? b with
      | none => rfl
      | some o =>
        obtain ⟨o', e'⟩ := x'.live _ o q
        rcases hb with rfl | rfl
        · rw [notlive _ (Nat.le_succ _)] at e'; cases e'
        · rw [notlive _ (Nat.le_refl _)] at e'; cases e'
    · rcases hb with rfl | rfl
      · exact ⟨hL, hO, _, hen, (fun ⟨_, _, q⟩ => nomatch q), (fun v q => nomatch q)⟩
      · obtain ⟨o, ho, _, hd⟩ := hit
        exact ⟨tp.2.1, tp.2.2.1, o, ho, (fun ⟨_, _, q⟩ => absurd (hd.symm.trans q) nofun), (fun v q => absurd (hd.symm.trans q) nofun)⟩
end

end Mine
end
section
open PySem PySem.W PyProof.Rows PySem.Calls
namespace Mine

/-! the block of a comprehension: its names, its cells -/
def closL (cells : List (Str × Addr)) : List (Str × NameKind) → List (Str × Addr) → List (Str × Addr)
  | [], acc => acc
  | (x, k) :: r, acc => closL cells r (if k == .free then (x, (cells.lookup x).getD 0) :: acc else acc)

theorem closL_lookup {cells : List (Str × Addr)} : ∀ (names : List (Str × NameKind)) (acc : List (Str × Addr)), (∀ x ∈ names, x.2 = .free → (cells.lookup x.1).isSome = true) → (∀ x c, acc.lookup x = some c → cells.lookup x = some c) →
    ∀ x c, (closL cells names acc).lookup x = some c → cells.lookup x = some c
  | [], acc, _, ha, x, c, h => ha x c h
  | (y, k) :: r, acc, hf, ha, x, c, h => by
    refine closL_lookup r _ (fun z hz => hf z (.tail _ hz)) ?_ x c h
    intro z d hd
    split at hd
    · rename_i hk
      rw [List.lookup_cons] at hd
      cases hz : z == y with
      | true =>
        rw [hz] at hd
        have e : z = y := by simpa using hz
        subst e
        cases hd
        obtain ⟨c', hc'⟩ := Option.isSome_iff_exists.mp (hf (z, k) (.head _) (by simpa using hk))
        have hc'' : cells.lookup z = some c' := hc'
        rw [hc'']; rfl
      | false => rw [hz] at hd; exact ha z d hd
    · exact ha z d hd
theorem closL_some {cells : List (Str × Addr)} : ∀ (names : List (Str × NameKind)) (acc : List (Str × Addr)) (x : Str), (x, NameKind.free) ∈ names ∨ (acc.lookup x).isSome = true → ((closL cells names acc).lookup x).isSome = true
  | [], acc, x, h => by
    rcases h with h | h
    · cases h
    · exact h
  | (y, k) :: r, acc, x, h => by
    refine closL_some r _ x ?_
    rcases h with h | h
    · rcases List.mem_cons.mp h with e | h
      · cases e
        right
        rw [if_pos (by rfl), List.lookup_cons]; simp
      · exact .inl h
    · right
      split
      · rw [List.lookup_cons]
        cases x == y <;> simp [h]
      · exact h
theorem closL_mem {cells : List (Str × Addr)} : ∀ (names : List (Str × NameKind)) (acc : List (Str × Addr)), (∀ x ∈ names, x.2 = .free → (cells.lookup x.1).isSome = true) → (∀ x c, (x, c) ∈ acc → ∃ y, cells.lookup y = some c) →
    ∀ x c, (x, c) ∈ closL cells names acc → ∃ y, cells.lookup y = some c
  | [], acc, _, ha, x, c, h => ha x c h
  | (y, k) :: r, acc, hf, ha, x, c, h => by
    refine closL_mem r _ (fun z hz => hf z (.tail _ hz)) ?_ x c h
    intro z d hd
    split at hd
    · rename_i hk
      rcases List.mem_cons.mp hd with e | hd
      · obtain ⟨c', hc'⟩ := Option.isSome_iff_exists.mp (hf (y, k) (.head _) (by simpa using hk))
        have hc'' : cells.lookup y = some c' := hc'
        rw [hc''] at e
        cases e
        exact ⟨y, hc''⟩
      · exact ha z d hd
    · exact ha z d hd
theorem closureFor_eq {scope : Scope} {env : Env} (h : ∀ x ∈ scope.names, x.2 = .free → (env.cells.lookup x.1).isSome = true) : closureFor scope env = pure (closL env.cells scope.names []) := by
  have go : ∀ (names : List (Str × NameKind)) (acc : List (Str × Addr)), (∀ x ∈ names, x.2 = .free → (env.cells.lookup x.1).isSome = true) →
      (forIn names acc fun (x : Str × NameKind) (r : List (Str × Addr)) => (if (x.2 == NameKind.free) = true then do let c ← cellOf env x.1; pure (ForInStep.yield ((x.1, c) :: r)) else pure (ForInStep.yield r) : Sem _)) = pure (closL env.cells names acc) := by
    intro names
    induction names with
    | nil => intro acc _; rfl
    | cons y r ih =>
      obtain ⟨y, k⟩ := y
      intro acc hf
      rw [List.forIn_cons]
      by_cases hk : (k == NameKind.free) = true
      · have hk' : k = .free := by simpa using hk
        subst hk'
        obtain ⟨c, hc⟩ := Option.isSome_iff_exists.mp (hf (y, .free) (.head _) rfl)
        have hc : env.cells.lookup y = some c := hc
        have hcell : cellOf env y = pure c := by unfold cellOf; rw [hc]
        simp only [beq_self_eq_true, if_true, hcell, pure_bind]
        rw [ih _ fun z hz => hf z (.tail _ hz)]
        simp [closL, hc]
      · simp only [hk, if_false, pure_bind, Bool.false_eq_true]
        rw [ih _ fun z hz => hf z (.tail _ hz)]
        simp [closL, hk]
  have e := go scope.names [] h
  unfold closureFor
  show (forIn scope.names ([] : List (Str × Addr)) (fun (x : Str × NameKind) (r : List (Str × Addr)) => (if (x.2 == NameKind.free) = true then do let c ← cellOf env x.1; pure (ForInStep.yield ((x.1, c) :: r)) else pure (ForInStep.yield r) : Sem _)) >>= fun s => pure s) = _
  rw [e]
  rfl

theorem cellsFrom_acc : ∀ (names : List (Str × NameKind)) (n : Nat) (acc : List (Str × Addr)), cellsFrom n names acc = cellsFrom n names [] ++ acc
  | [], _, _ => rfl
  | (x, k) :: r, n, acc => by
    unfold cellsFrom
    split
    · rw [cellsFrom_acc r (n + 1) ((x, n) :: acc), cellsFrom_acc r (n + 1) [(x, n)], List.append_assoc]; rfl
    · exact cellsFrom_acc r n acc
theorem cellsFrom_mem : ∀ (names : List (Str × NameKind)) (n : Nat) (x : Str) (c : Addr), (x, c) ∈ cellsFrom n names [] → (x, NameKind.cell) ∈ names
  | [], _, _, _, h => by cases h
  | (y, k) :: r, n, x, c, h => by
    unfold cellsFrom at h
    split at h
    · rename_i hk
      rw [cellsFrom_acc] at h
      rcases List.mem_append.mp h with h | h
      · exact .tail _ (cellsFrom_mem r (n + 1) x c h)
      · have hk' : k = .cell := by simpa using hk
        cases List.mem_singleton.mp h
        rw [hk']; exact .head _
    · exact .tail _ (cellsFrom_mem r n x c h)

def compFm (X : Cx) (scope : Scope) (C : Addr) : Fm :=
  { L := C, cells := cellsFrom (C + 1) scope.names [] ++ closL X.f.cells scope.names [], own := (cellsFrom (C + 1) scope.names []).map (·.2), qual := X.f.qual, func := none, code := X.f.code, frame := X.f.frame }
def compCx (X : Cx) (scope : Scope) (C : Addr) : Cx := ⟨X.B, X.A, compFm X scope C, relabel scope X.env⟩
def St.comp (σ : St) (scope : Scope) : St := { mem := σ.mem, loc := fun x => if scope.names.lookup x = some .free then σ.loc x else none }

/-- a comprehension's block that may be entered here -/
structure CompOk (X : Cx) (scope : Scope) : Prop where
  kind : scope.kind = .function
  nodup : (scope.names.map (·.1)).Nodup
  free : ∀ x ∈ scope.names, x.2 = .free → (X.f.cells.lookup x.1).isSome = true ∧ (X.env.kindOf x.1 = some .cell ∨ X.env.kindOf x.1 = some .free)

theorem lookup_relabel {env : Env} (hk : env.scope.kind = .function) : ∀ {names : List (Str × NameKind)} {x : Str} {k : NameKind}, names.lookup x = some k →
    (names.map fun (n, k) => if (k == NameKind.free && env.scope.kind == .function && env.kindOf n == some .cell) then (n, NameKind.cell) else (n, k)).lookup x = some (if k = .free ∧ env.kindOf x = some .cell then .cell else k)
  | [], _, _, h => by simp at h
  | (n, j) :: r, x, k, h => by
    have ih := @lookup_relabel env hk r x k
    rw [List.map_cons]
    show List.lookup x ((if (j == NameKind.free && env.scope.kind == .function && env.kindOf n == some .cell) = true then (n, NameKind.cell) else (n, j)) :: _) = _
    cases hx : x == n with
    | true =>
      have e : x = n := by simpa using hx
      subst e
      simp only [List.lookup_cons, hx] at h
      cases h
      by_cases hc : (j == NameKind.free && env.scope.kind == .function && env.kindOf x == some .cell) = true
      · rw [if_pos hc]
        simp only [Bool.and_eq_true, beq_iff_eq] at hc
        simp [List.lookup_cons, hc.1.1, hc.2]
      · rw [if_neg hc]
        have : ¬ (j = .free ∧ env.kindOf x = some .cell) := fun q => hc (by simp [q.1, q.2, hk])
        simp [List.lookup_cons, this]
    | false =>
      simp only [List.lookup_cons, hx] at h
      split
      · simp only [List.lookup_cons, hx]; exact ih h
      · simp only [List.lookup_cons, hx]; exact ih h

section
variable {X : Cx} {σ : St} {n : Nat} {pos : Pos}

theorem lookup_nodup {α : Type} : ∀ {names : List (Str × α)}, (names.map (·.1)).Nodup → ∀ {x : Str} {k : α}, (x, k) ∈ names → names.lookup x = some k
  | [], _, _, _, hm => by cases hm
  | (y, j) :: r, h, x, k, hm => by
    rw [List.map_cons, List.nodup_cons] at h
    rw [List.lookup_cons]
    rcases List.mem_cons.mp hm with e | hm'
    · cases e; simp
    · have : (x == y) = false := by
        cases q : x == y with
        | false => rfl
        | true =>
          have e : x = y := by simpa using q
          subst e
          exact absurd (List.mem_map_of_mem (f := (·.1)) hm') h.1
      rw [this]
      exact lookup_nodup h.2 hm'

/-- the frame of the block is laid -/
theorem comp_enter (ok : X.Ok n) {scope : Scope} (co : CompOk X scope) {s : Shared} (R : Rep X σ s) {Q' : Env → Shared → Prop} {E' : Value → Shared → Prop}
    (hk : ∀ C h' , C = s.heap.objs.size → (∀ b o, s.heap.get? b = some o → h'.get? b = some o) → (compCx X scope C).Ok n → Rep (compCx X scope C) (σ.comp scope) { s with heap := h' } → (∀ b o, s.heap.get? b = some o → b ≠ C ∧ b ∉ (compCx X scope C).f.own) →
      ∀ cenv : Env, { cenv with scope := relabel scope X.env } = (compCx X scope C).env → cenv.locals = C → Q' cenv { s with heap := h' }) :
    wpAny X.M X.A (newFunctionEnv scope X.env.globals (closL X.f.cells scope.names []) [] X.env.qual none .none (some X.env)) Q' E' s := by
  simp only [newFunctionEnv, Option.isSome_some, if_true]
  refine wpAny_bind (wpAny_alloc ?_)
  refine wpAny_bind (wpAny_layCells _ (fun name kind cells => by cases hkc : kind == NameKind.cell <;> simp [hkc]) _ _ _ _ ?_)
  have okc := cellsFrom_ok scope.names (s.heap.push { cls := .type "dict", data := .dict #[] }) (s.heap.objs.size + 1) [] ⟨fun _ _ hm => (nomatch hm), List.Pairwise.nil⟩ (by rw [Heap.size_push]; exact Nat.le_refl _)
  rw [Heap.size_push] at okc
  rw [show ({ s with heap := s.heap.push { cls := .type "dict", data := .dict #[] } } : Shared).heap.objs.size = s.heap.objs.size + 1 from Heap.size_push ..]
  rw [List.forIn_nil]
  refine wpAny_bind (wpAny_pure (wpAny_pure ?_))
  have kp : ∀ b o, s.heap.get? b = some o → (pushCells (s.heap.push { cls := .type "dict", data := .dict #[] }) scope.names).get? b = some o := fun b o e => pushCells_keeps _ _ b o (Heap.get?_push_of_some _ e)
  have g := R.grow (t := s.toks) kp
  have notlive : ∀ c, s.heap.objs.size ≤ c → s.heap.get? c = none := fun c hc => Heap.get?_none_of_le hc
  have above : ∀ x c, (x, c) ∈ cellsFrom (s.heap.objs.size + 1) scope.names [] → s.heap.objs.size + 1 ≤ c := fun x c hm => (okc.empty x c hm).2
  have aboveO : ∀ c ∈ (compCx X scope s.heap.objs.size).f.own, s.heap.objs.size + 1 ≤ c := by
    intro c hc
    obtain ⟨⟨y, c'⟩, hm, rfl⟩ := List.mem_map.mp hc
    exact above y c' hm
  have hcl : ∀ x c, (closL X.f.cells scope.names []).lookup x = some c → X.f.cells.lookup x = some c := closL_lookup scope.names [] (fun x hx hf => (co.free x hx hf).1) (fun _ _ h => by simp at h)
  have capp : ∀ x c, (compCx X scope s.heap.objs.size).f.cells.lookup x = some c → (x, c) ∈ cellsFrom (s.heap.objs.size + 1) scope.names [] ∨ X.f.cells.lookup x = some c := by
    intro x c h
    have h' : (cellsFrom (s.heap.objs.size + 1) scope.names [] ++ closL X.f.cells scope.names []).lookup x = some c := h
    rw [List.lookup_append] at h'
    cases e : (cellsFrom (s.heap.objs.size + 1) scope.names []).lookup x with
    | some d => rw [e] at h'; cases h'; exact .inl (mem_of_lookup e)
    | none => rw [e] at h'; exact .inr (hcl x c (by simpa using h'))
  -- cells of the frame around lie below
  have below : ∀ x c, X.f.cells.lookup x = some c → c < s.heap.objs.size := fun x c h => by
    obtain ⟨m, _, _, hc, _⟩ := R.env
    obtain ⟨_, v, o, ho, _⟩ := hc c (.inr ⟨x, mem_of_lookup h⟩)
    exact Heap.lt_size ho
  have ok' : (compCx X scope s.heap.objs.size).Ok n := by
    refine ⟨ok.base, co.kind, ok.handled, ok.depth, ok.units, R.top.1, ?_, ?_⟩
    · intro c hc
      have := aboveO c hc
      exact ⟨(R.fresh (notlive c (Nat.le_of_succ_le this))).2, Nat.ne_of_gt this⟩
    · intro x y c hx hy
      rcases capp x c hx with h1 | h1 <;> rcases capp y c hy with h2 | h2
      · exact name_of_addr okc.apart h1 h2
      · exact absurd (below y c h2) (Nat.not_lt.mpr (Nat.le_of_succ_le (above x c h1)))
      · exact absurd (below x c h1) (Nat.not_lt.mpr (Nat.le_of_succ_le (above y c h2)))
      · exact ok.cellInj x y c h1 h2
  refine hk s.heap.objs.size _ rfl kp ok' ?_ ?_ _ ?_ rfl
  · refine ⟨g.1.keep, g.1.gens, g.1.os, g.1.mem, ?_⟩
    refine ⟨fun _ => none, (Heap.Ns.new s.heap (.type "dict")).keeps (pushCells_keeps _ _), R.top.2.2.2, ?_, ?_⟩
    · intro c hc
      have hnew : ∀ x, (x, c) ∈ cellsFrom (s.heap.objs.size + 1) scope.names [] → (σ.comp scope).mem c = none ∧ ∃ v, (pushCells (s.heap.push { cls := .type "dict", data := .dict #[] }) scope.names).IsCell c v := fun x hx =>
        ⟨(R.fresh (notlive c (Nat.le_of_succ_le (above x c hx)))).1, _, (okc.empty x c hx).1⟩
      rcases hc with hc | ⟨x, hx⟩
      · obtain ⟨⟨y, c'⟩, hm, rfl⟩ := List.mem_map.mp hc
        exact hnew y hm
      · rcases List.mem_append.mp (show (x, c) ∈ cellsFrom (s.heap.objs.size + 1) scope.names [] ++ closL X.f.cells scope.names [] from hx) with h1 | h1
        · exact hnew x h1
        · obtain ⟨y, hy⟩ := closL_mem scope.names [] (fun x hx hf => (co.free x hx hf).1) (fun _ _ h => by cases h) x c h1
          obtain ⟨m, _, _, hcs, _⟩ := R.env
          obtain ⟨q1, v, o, ho, hd⟩ := hcs c (.inr ⟨y, mem_of_lookup hy⟩)
          exact ⟨q1, v, o, kp c o ho, hd⟩
    · intro x V hx
      have hx' : (if scope.names.lookup x = some .free then σ.loc x else none) = some V := hx
      by_cases hf : scope.names.lookup x = some .free
      · rw [if_pos hf] at hx'
        obtain ⟨m, _, _, _, hl⟩ := id R.env
        obtain ⟨hd, v, rv, hh⟩ := hl x V hx'
        have hmf : (x, NameKind.free) ∈ scope.names := mem_of_lookup hf
        have fr := co.free (x, .free) hmf rfl
        refine ⟨hd, v, g.2.rv R rv, .inr ?_⟩
        rcases hh with ⟨hk1, _⟩ | ⟨c, hc, hv, hm, hkk⟩
        · exfalso
          rcases fr.2 with q | q
          · have q' : X.env.kindOf x = some .cell := q
            rw [hk1] at q'; cases q'
          · have q' : X.env.kindOf x = some .free := q
            rw [hk1] at q'; cases q'
        · refine ⟨c, ?_, ?_, hm, ?_⟩
          · show (cellsFrom (s.heap.objs.size + 1) scope.names [] ++ closL X.f.cells scope.names []).lookup x = some c
            rw [List.lookup_append]
            have e1 : (cellsFrom (s.heap.objs.size + 1) scope.names []).lookup x = none := by
              cases q : (cellsFrom (s.heap.objs.size + 1) scope.names []).lookup x with
              | none => rfl
              | some d =>
                have := lookup_nodup co.nodup (cellsFrom_mem _ _ _ _ (mem_of_lookup q))
                rw [hf] at this; cases this
            rw [e1]
            obtain ⟨d, hd'⟩ := Option.isSome_iff_exists.mp (closL_some (cells := X.f.cells) scope.names [] x (.inl hmf))
            have := hcl x d hd'
            rw [hc] at this; cases this
            simpa using hd'
          · obtain ⟨o, ho, hdt⟩ := hv
            exact ⟨o, kp c o ho, hdt⟩
          · have e := lookup_relabel (env := X.env) ok.kind hf
            have e' : (compCx X scope s.heap.objs.size).env.kindOf x = some (if NameKind.free = .free ∧ X.env.kindOf x = some .cell then .cell else .free) := e
            rcases hkk with q | ⟨q, q2⟩
            · left; rw [e', if_pos ⟨rfl, q⟩]
            · right
              refine ⟨?_, q2⟩
              rw [e', if_neg (fun z => by rw [q] at z; cases z.2)]
      · rw [if_neg hf] at hx'; cases hx'
  · intro b o e
    have := Heap.lt_size e
    exact ⟨Nat.ne_of_lt this, fun hm => absurd (aboveO b hm) (Nat.not_le.mpr (Nat.lt_succ_of_lt this))⟩
  · simp only [compCx, compFm, Cx.env, Fm.env]
    rw [cellsFrom_acc]
end

end Mine
end
section
open PySem PySem.W PyProof.Rows PySem.Calls
namespace Mine

def ATs (X : Cx) : List Expr → St → (Bool → St → Prop) → Prop
  | [], σ, Q => Q true σ
  | c :: r, σ, Q => AT X c σ (fun b σ1 => (b = true → ATs X r σ1 Q) ∧ (b = false → Q false σ1))

abbrev testsT (ifs : List Expr) (env : Env) : Sem Bool := forIn ifs true fun c r => if r = true then do let ok ← isTrue c env (eval c env); pure (ForInStep.yield ok) else pure (ForInStep.yield r)

/-- the turns of a comprehension's clause -/
def CLoop (X : Cx) (tg : Expr) (ifs : List Expr) (stay : St → Prop) (inner : St → (St → Prop) → Prop) : List Val → St → (St → Prop) → Prop
  | [], σ, K => K σ
  | V :: r, σ, K => AG X tg V σ (fun σ1 => ATs X ifs σ1 (fun b σ2 => (b = true → inner σ2 (fun σ3 => stay σ3 ∧ CLoop X tg ifs stay inner r σ3 K)) ∧ (b = false → stay σ2 ∧ CLoop X tg ifs stay inner r σ2 K)))

def emit (X : Cx) (D : Addr) (elt : Expr) (σ : St) (K : St → Prop) : Prop :=
  AE X elt σ (fun V σ' => ∃ vs, σ'.mem D = some (.list vs) ∧ vs.length < 16777216 ∧ K (σ'.put D (.list (vs ++ [V]))))

def turnT (ip : Pos) (tg : Expr) (ifs : List Expr) (inner : Sem Unit) (it : Value) (c : Code) (env : Env) : Sem Fin := do
  standAt ip
  match ← pyNext it with
  | none => pure (.done .next)
  | some v =>
    letOwnedTupleGo tg it v
    assign tg env v
    let ok ← testsT ifs env
    if ok then inner
    again c

structure ExtW (X : Cx) (W : Addr → Prop) (σ : St) (s : Shared) (σ' : St) (s' : Shared) : Prop where
  keep : ∀ b o, ¬ W b → s.heap.get? b = some o → σ.mem b = none → b ≠ X.f.L → b ∉ X.f.own → s'.heap.get? b = some o
  mem : ∀ b o, ¬ W b → s.heap.get? b = some o → σ.mem b = none → σ'.mem b = none
  live : ∀ b o, ¬ W b → s.heap.get? b = some o → ∃ o', s'.heap.get? b = some o'

section
variable {X : Cx} {σ σ' σ'' : St} {n : Nat} {pos : Pos} {s s' s'' : Shared} {W : Addr → Prop}

theorem ExtW.refl : ExtW X W σ s σ s := ⟨fun _ _ _ e _ _ _ => e, fun _ _ _ _ e => e, fun _ o _ e => ⟨o, e⟩⟩
theorem ExtW.step (x : ExtW X W σ s σ' s') (y : Ext X σ' s' σ'' s'') : ExtW X W σ s σ'' s'' :=
  ⟨fun b o w e m hL ho => y.keep b o (x.keep b o w e m hL ho) (x.mem b o w e m) hL ho, fun b o w e m => let ⟨o', e'⟩ := x.live b o w e; y.mem b o' e' (x.mem b o w e m), fun b o w e => let ⟨o', e'⟩ := x.live b o w e; y.live b o' e'⟩
theorem ExtW.walk (x : ExtW X W σ s σ' s') {h' : Heap} {tk : Nat} (hk : ∀ b o, ¬ W b → s'.heap.get? b = some o → h'.get? b = some o) : ExtW X W σ s σ' { s' with heap := h', toks := tk } :=
  ⟨fun b o w e m hL ho => hk b o w (x.keep b o w e m hL ho), x.mem, fun b o w e => let ⟨o', e'⟩ := x.live b o w e; ⟨o', hk b o' w e'⟩⟩

theorem ATs_run : ∀ {ifs : List Expr} {σ : St} {s : Shared} {Q : Bool → St → Prop}, ATs X ifs σ Q → Rep X σ s → Ta X (eqR (α := Bool)) (testsT ifs X.env) σ s Q
  | [], σ, s, Q, h, R => wpAny_pure ⟨true, σ, rfl, R, .refl, h⟩
  | c :: r, σ, s, Q, h, R => by
    unfold testsT
    rw [List.forIn_cons]
    simp only [if_true]
    refine wpAny_bind (wpAny_bind (wpAny_mono (h s R) ?_ fun _ _ e => e))
    rintro b s1 ⟨_, σ1, rfl, R1, x1, q⟩
    refine wpAny_pure ?_
    cases b with
    | true => exact (ATs_run (q.1 rfl) R1).then R1 x1
    | false =>
      have e : ∀ (l : List Expr), (forIn l false fun c r => if r = true then do let ok ← isTrue c X.env (eval c X.env); pure (ForInStep.yield ok) else pure (ForInStep.yield r) : Sem Bool) = pure false := by
        intro l
        induction l with
        | nil => rfl
        | cons a l ih => rw [List.forIn_cons]; simp only [Bool.false_eq_true, if_false, pure_bind]; exact ih
      show wpAny _ _ (forIn r false fun c r => if r = true then do let ok ← isTrue c X.env (eval c X.env); pure (ForInStep.yield ok) else pure (ForInStep.yield r) : Sem Bool) _ _ s1
      rw [e]
      exact wpAny_pure ⟨false, σ1, rfl, R1, x1, q.2 rfl⟩
end

section
variable {X : Cx} {σ σ' σ'' : St} {n : Nat} {pos : Pos} {s s' s'' : Shared} {W : Addr → Prop}

theorem CLoop_run {tg : Expr} {ifs : List Expr} {stay : St → Prop} {inner : St → (St → Prop) → Prop} {I : Addr} {S : Nat → St → Heap → Prop} {items : List Val} {c : Code} {ip : Pos} {t : Sem Unit} {K : St → Prop}
    (it : It X tg I W S items stay) (hq : c.quiet = true) (hA : X.A.under c = X.A) (hc : X.M.den c = (turnT ip tg ifs t (.ref I) c X.env).onRaise (fun x => do noteFrame x X.env; theTreesLotGoes x))
    (hin : ∀ σ s K, Rep X σ s → inner σ K → wpAny X.M X.A t (fun _ s' => ∃ σ', Rep X σ' s' ∧ Ext X σ s σ' s' ∧ K σ') (fun _ _ => False) s)
    (R : Rep X σ s) (hS : S 0 σ s.heap) (h : CLoop X tg ifs stay inner items σ K) :
    codeAny X.M X.A c (fun r s' => r = .ok .next ∧ ∃ σ', Rep X σ' s' ∧ ExtW X W σ s σ' s' ∧ K σ') s := by
  refine codeAny_loop hq (fun k s' => ∃ i σ', i ≤ items.length ∧ k = items.length + 1 - i ∧ Rep X σ' s' ∧ S i σ' s'.heap ∧ ExtW X W σ s σ' s' ∧ CLoop X tg ifs stay inner (items.drop i) σ' K) ?_ (items.length + 1)
    ⟨0, σ, Nat.zero_le _, rfl, R, hS, .refl, by simpa using h⟩
  rintro k s' ⟨i, σ', hi, rfl, R', hS', x', hF'⟩
  rw [hA, hc]
  refine wpAny_noted ?_
  refine wpAny_mono (E := fun _ _ => False) (Q := fun fin s' => match fin with
    | .done f => (.ok f : Result) = .ok .next ∧ ∃ σ', Rep X σ' s' ∧ ExtW X W σ s σ' s' ∧ K σ'
    | .again c' => c' = c ∧ ∃ m, m < (items.length + 1 - i) ∧ ∃ i σ', i ≤ items.length ∧ m = items.length + 1 - i ∧ Rep X σ' s' ∧ S i σ' s'.heap ∧ ExtW X W σ s σ' s' ∧ CLoop X tg ifs stay inner (items.drop i) σ' K) ?_ (fun _ _ q => q) (fun _ _ e => e.elim)
  unfold turnT
  refine wpAny_bind (wpAny_standAt (wpAny_bind ?_))
  by_cases hlt : i < items.length
  · have hV : items[i]? = some items[i] := List.getElem?_eq_getElem hlt
    rw [drop_cons_of_get hlt] at hF'
    refine wpAny_mono (it.turn i σ' s' _ R' hS' hV) ?_ fun _ _ e => e.elim
    rintro r s3 ⟨v, rfl, h3⟩
    refine wpAny_bind (wpAny_mono h3 ?_ fun _ _ e => e.elim)
    rintro _ s4 ⟨h', tk, rfl, R4, rv, hS4, hk4⟩
    have x4 := x'.walk (tk := tk) hk4
    refine wpAny_bind (wpAny_mono (hF' _ v R4 rv) ?_ fun _ _ e => e.elim)
    rintro _ s5 ⟨_, σ5, _, R5, x5, hb⟩
    refine wpAny_bind (wpAny_mono (ATs_run hb R5) ?_ fun _ _ e => e.elim)
    rintro b s6 ⟨_, σ6, rfl, R6, x6, hk⟩
    have x46 := x5.trans R5 x6
    cases b with
    | true =>
      simp only [if_true]
      refine wpAny_bind (wpAny_mono (hin _ _ _ R6 (hk.1 rfl)) ?_ fun _ _ e => e.elim)
      rintro _ s7 ⟨σ7, R7, x7, hs7, hl7⟩
      have x47 := x46.trans R6 x7
      exact wpAny_pure ⟨rfl, _, by omega, i + 1, σ7, hlt, rfl, R7, it.frame _ _ _ _ _ hS4 R4 x47 R7 hs7, x4.step x47, hl7⟩
    | false =>
      simp only [Bool.false_eq_true, if_false]
      have hk' := hk.2 rfl
      exact wpAny_pure ⟨rfl, _, by omega, i + 1, σ6, hlt, rfl, R6, it.frame _ _ _ _ _ hS4 R4 x46 R6 hk'.1, x4.step x46, hk'.2⟩
  · have hie : i = items.length := by omega
    subst hie
    rw [List.drop_length] at hF'
    refine wpAny_mono (it.done σ' s' R' hS') ?_ fun _ _ e => e.elim
    rintro r s3 ⟨rfl, h', tk, rfl, R3, hk3⟩
    exact wpAny_pure ⟨rfl, σ', R3, x'.walk hk3, hF'⟩

/-- the element comes behind the others -/
theorem emit_run {D : Addr} {elt : Expr} {K : St → Prop} (R : Rep X σ s) (h : emit X D elt σ K) :
    wpAny X.M X.A (do let _ ← call (.builtin "list.append") [.ref D, ← eval elt X.env]) (fun _ s' => ∃ σ', Rep X σ' s' ∧ Ext X σ s σ' s' ∧ K σ') (fun _ _ => False) s := by
  refine wpAny_bind (wpAny_mono (h s R) ?_ fun _ _ e => e.elim)
  rintro v s2 ⟨V, σ2, rv, R2, x2, vs, hm2, hl, q⟩
  obtain ⟨items, k, e2, rvs⟩ := R2.isL hm2
  refine wpAny_bind (wpAny_list_append_plain (hsz := sz (by simp [rvs.length]; omega)) (l := D) (items := items.toArray) ⟨k, e2⟩ fun h' hpl hs' => wpAny_pure ?_)
  obtain ⟨k', el⟩ := hpl
  rw [show items.toArray.push v = (items ++ [v]).toArray from by simp] at el
  have kp : ∀ b o, b ≠ D → s2.heap.get? b = some o → h'.get? b = some o := fun b o q e => hs'.extBut b o q e
  have pm : ∀ b, σ2.mem b = none → b ≠ D := fun b m q => by rw [q, hm2] at m; cases m
  have g := R2.upd (t := s2.toks) (bx' := .list (vs ++ [V])) hm2 kp ⟨items ++ [v], _, el, (rvs.snoc rv).mono fun b o e m _ => ⟨kp b o (pm b m) e, by rw [St.put_mem, if_neg (pm b m)]; exact m⟩⟩
  exact ⟨_, g.1, x2.trans R2 g.2, q⟩
end

section
variable {X : Cx} {σ : St} {n : Nat} {pos : Pos}

/-- what the block of a comprehension leaves -/
def compDone (D : Addr) (σ2 : St) (Q : Val → St → Prop) (σ5 : St) : Prop :=
  (∃ vs, σ5.mem D = some (.list vs) ∧ Made (σ2.back σ5) vs Q) ∨ (∃ σ6 : St, (∀ a bx, σ6.mem a = some bx → σ5.mem a = some bx) ∧ σ6.loc = σ2.loc ∧ Q (.ref D) σ6)

theorem comp_leave {scope : Scope} {C D : Addr} {σ2 σ5 : St} {s s2 s5 : Shared} {h' : Heap} {W : Addr → Prop} {Q : Val → St → Prop} {h4 : Heap} {tk : Nat} (R2 : Rep X σ2 s2) (x2 : Ext X σ s σ2 s2) (hD : σ2.mem D = none) (hDn : s2.heap.get? D = none)
    (hnew : ∀ b o, s2.heap.get? b = some o → b ≠ C ∧ b ∉ (compCx X scope C).f.own) (kp4 : ∀ b o, s2.heap.get? b = some o → h4.get? b = some o)
    (hW : ∀ b, W b → s.heap.get? b = none ∧ b ≠ X.f.L ∧ b ∉ X.f.own ∧ ∃ o, s2.heap.get? b = some o ∧ ¬ isSeqObj o ∧ ∀ v, o.data ≠ .cell v)
    (R5 : Rep (compCx X scope C) σ5 s5) (x5 : ExtW (compCx X scope C) W ((σ2.put D (.list [])).comp scope) { s2 with heap := h4, toks := tk } σ5 s5)
    (hs : Heap.SameBut C s5.heap h') (hq : compDone D σ2 Q σ5) :
    ∃ V σ', RV h' σ'.mem (.ref D) V ∧ Rep X σ' { s5 with heap := h' } ∧ Ext X σ s σ' { s5 with heap := h' } ∧ σ'.mem C = none ∧ Q V σ' := by
  have CL : (compCx X scope C).f.L = C := rfl
  have nD : ∀ b o, s2.heap.get? b = some o → b ≠ D := fun b o e q => by rw [q, hDn] at e; cases e
  have m4 : ∀ b o, s2.heap.get? b = some o → σ2.mem b = none → ((σ2.put D (.list [])).comp scope).mem b = none := fun b o e m => by
    show (if b = D then _ else σ2.mem b) = none
    rw [if_neg (nD b o e)]; exact m
  have seqW : ∀ b o, s2.heap.get? b = some o → isSeqObj o → ¬ W b := fun b o e q w => by
    obtain ⟨_, _, _, o', e', nq, _⟩ := hW b w
    rw [e] at e'; cases e'; exact nq q
  obtain ⟨m, ⟨oL, es, ep, hL, rest⟩, qL, qc, ql⟩ := id R2.env
  have wL : ¬ W X.f.L := fun w => (hW _ w).2.1 rfl
  have go : ∀ σ6 : St, (∀ a bx, σ6.mem a = some bx → σ5.mem a = some bx) → σ6.loc = σ2.loc →
      Rep X σ6 { s5 with heap := h' } ∧ Ext X σ s σ6 { s5 with heap := h' } ∧ (∀ b o, s5.heap.get? b = some o → σ5.mem b = none → isSeqObj o → h'.get? b = some o ∧ σ6.mem b = none) ∧ σ6.mem C = none := by
    intro σ6 hm6 hl6
    have nn : ∀ b, σ5.mem b = none → σ6.mem b = none := fun b m => by
      cases e : σ6.mem b with
      | none => rfl
      | some bx => rw [hm6 b bx e] at m; cases m
    have nk : ∀ b ob, ¬ W b → s2.heap.get? b = some ob → σ2.mem b = none → h'.get? b = some ob ∧ σ6.mem b = none := fun b ob w e m => by
      have nb := hnew b ob e
      exact ⟨hs.extBut b ob nb.1 (x5.keep b ob w (kp4 b ob e) (m4 b ob e m) nb.1 nb.2), nn b (x5.mem b ob w (kp4 b ob e) (m4 b ob e m))⟩
    have k5 : ∀ b o, s5.heap.get? b = some o → σ5.mem b = none → isSeqObj o → h'.get? b = some o ∧ σ6.mem b = none := fun b o e m q =>
      ⟨hs.extBut b o (R5.locals_ne e (seq_no_dict q)) e, nn b m⟩
    refine ⟨?_, ?_, k5, nn C (let ⟨_, _, q, _⟩ := R5.env; q)⟩
    · refine ⟨fun b o e => ?_, R5.gens, R5.os, fun a bx e => ?_, ?_⟩
      · have e2 := R2.keep b o e
        exact hs.extBut b o (hnew b o e2).1 (R5.keep b o e)
      · have e' := hm6 a bx e
        have q := R5.mem a bx e'
        refine ⟨q.1, q.2.mono k5 fun o eo => hs.extBut a o (fun z => ?_) eo⟩
        obtain ⟨_, _, qC, _⟩ := R5.env
        rw [CL] at qC
        rw [z, qC] at e'; cases e'
      · have cw : ∀ c v, s2.heap.IsCell c v → ¬ W c := fun c v ⟨oc, e, d⟩ w => by
          obtain ⟨_, _, _, o', e', _, nq⟩ := hW c w
          rw [e] at e'; cases e'; exact nq _ d
        exact R2.env.mono (fun b ob e m q => nk b ob (seqW b ob e q) e m) (fun ob e => (nk _ ob wL e qL).1) (fun c v hc m => by
          have w := cw c v hc
          obtain ⟨ob, e, d⟩ := hc
          exact ⟨⟨ob, (nk c ob w e m).1, d⟩, (nk c ob w e m).2⟩) (nk _ _ wL hL qL).2 fun x V e => by rw [← hl6]; exact e
    · refine ⟨fun b ob e m hb ho => ?_, fun b ob e m => ?_, fun b ob e => ?_⟩
      · have w : ¬ W b := fun w => by rw [(hW b w).1] at e; cases e
        exact (nk b ob w (x2.keep b ob e m hb ho) (x2.mem b ob e m)).1
      · have w : ¬ W b := fun w => by rw [(hW b w).1] at e; cases e
        obtain ⟨o', e'⟩ := x2.live b ob e
        exact (nk b o' w e' (x2.mem b ob e m)).2
      · have w : ¬ W b := fun w => by rw [(hW b w).1] at e; cases e
        obtain ⟨o', e'⟩ := x2.live b ob e
        obtain ⟨o'', e''⟩ := x5.live b o' w (kp4 b o' e')
        exact ⟨o'', hs.extBut b o'' (hnew b o' e').1 e''⟩
  have hb : ∀ a bx, (σ2.back σ5).mem a = some bx → σ5.mem a = some bx := fun a bx e => by
    have : (if (σ2.mem a).isSome then σ5.mem a else none) = some bx := e
    split at this
    · exact this
    · cases this
  rcases hq with ⟨vs, hv, M⟩ | ⟨σ6, hm6, hl6, hq6⟩
  rotate_left
  · obtain ⟨r, x, k5, qC⟩ := go σ6 hm6 hl6
    exact ⟨_, _, .ref D, r, x, qC, hq6⟩
  obtain ⟨items, k, el, rvs⟩ := R5.isL hv
  have mD : (σ2.back σ5).mem D = none := by
    show (if (σ2.mem D).isSome then _ else none) = none
    rw [hD]; rfl
  have elD : IsL h' D items.toArray k := hs.extBut D _ (R5.locals_ne el (seq_no_dict ⟨_, _, rfl⟩)) el
  cases M with
  | frozen h =>
    obtain ⟨r, x, k5, qC⟩ := go _ hb rfl
    exact ⟨_, _, .lst elD mD (rvs.mono k5), r, x, qC, h⟩
  | tracked h =>
    obtain ⟨r, x, k5, qC⟩ := go ((σ2.back σ5).put D (.list vs)) (fun a bx e => by
      rw [St.put_mem] at e
      split at e
      · rename_i q; subst q; cases e; exact hv
      · exact hb a bx e) rfl
    exact ⟨_, _, .ref D, r, x, qC, h D mD⟩

/-- the walk of the block, one clause -/
theorem comp_block {scope : Scope} {tg iter elt : Expr} {ifs : List Expr} {cpos : Pos} {s s2 : Shared} {it : Value} {Q : Val → St → Prop} (ok : X.Ok n) (co : CompOk X scope) {RR : Value → Addr → Result → Shared → Prop}
    (h : Walking X tg σ s (fun items stay σ2 => ∀ C D, σ2.mem D = none → (compCx X scope C).Ok n → stay ((σ2.put D (.list [])).comp scope) ∧ CLoop (compCx X scope C) tg ifs stay (emit (compCx X scope C) D elt) items ((σ2.put D (.list [])).comp scope) (compDone D σ2 Q)) it s2)
    (hRR : ∀ D C s5, (∃ m, s5.heap.Ns C m) → (X.B.h₁.get? C = none ∧ C ≠ X.f.L ∧ C ∉ X.f.own ∧ s.heap.get? C = none) →
      (∀ h', Heap.SameBut C s5.heap h' → ∃ V σ', RV h' σ'.mem (.ref D) V ∧ Rep X σ' { s5 with heap := h' } ∧ Ext X σ s σ' { s5 with heap := h' } ∧ σ'.mem C = none ∧ Q V σ') → RR (.ref D) C (.ok .next) s5) :
    wpAny X.M X.A (newList []) (fun acc s₃ => wpAny X.M X.A (newFunctionEnv scope X.env.globals (closL X.f.cells scope.names []) [] X.env.qual none .none (some X.env)) (fun cenv s₄ =>
      codeAny X.M X.A (.compStart (.ListComp elt [⟨tg, iter, ifs, 0⟩] scope cpos) 0 it acc { cenv with scope := relabel scope X.env }) (RR acc cenv.locals) s₄) (fun _ _ => False) s₃) (fun _ _ => False) s2 := by
  obtain ⟨I, W, S, items, stay, σ2, rfl, hit, hS, R2, x2, hW, hst, hK⟩ := h
  refine wpAny_newObj_type ?_
  have fD := R2.fresh (heap_top_none s2.heap)
  have kp3 : ∀ b o, s2.heap.get? b = some o → (s2.heap.push { cls := .type "list", dict := none, data := .seq ([] : List Value).toArray }).get? b = some o := fun b o e => Heap.get?_push_of_some _ e
  have g := R2.new (t := s2.toks) (bx := .list []) (heap_top_none s2.heap) kp3 ⟨[], _, Heap.get?_push_size _ rfl, .nil⟩
  refine comp_enter ok co g.1 ?_
  intro C h4 eC kp4 okc R4 hnew cenv ecenv eL
  have hit' := hit (compCx X scope C) rfl rfl ⟨n, okc⟩ fun b w => by
    obtain ⟨_, _, _, o, e, _⟩ := hW b w
    exact hnew b o (kp3 b o e)
  rw [ecenv, eL]
  have kp : ∀ b o, s2.heap.get? b = some o → h4.get? b = some o := fun b o e => kp4 b o (kp3 b o e)
  obtain ⟨hst4, hK4⟩ := hK C s2.heap.objs.size fD.1 okc
  have g4 := g.1.grow (t := s2.toks) kp4
  have lc : ∀ x V, ((σ2.put s2.heap.objs.size (.list [])).comp scope).loc x = some V → (σ2.put s2.heap.objs.size (.list [])).loc x = some V := fun x V e => by
    have e' : (if scope.names.lookup x = some .free then (σ2.put s2.heap.objs.size (.list [])).loc x else none) = some V := e
    split at e'
    · exact e'
    · cases e'
  have R4' : Rep X ((σ2.put s2.heap.objs.size (.list [])).comp scope) { s2 with heap := h4, toks := s2.toks } := g4.1.less (fun _ _ e => e) lc
  have x4 : Ext X σ2 s2 ((σ2.put s2.heap.objs.size (.list [])).comp scope) { s2 with heap := h4, toks := s2.toks } := (g.2.trans g.1 g4.2).less fun _ _ e => e
  have hS4 : S 0 ((σ2.put s2.heap.objs.size (.list [])).comp scope) h4 := (hit X rfl rfl ⟨n, ok⟩ fun b w => ⟨(hW b w).2.1, (hW b w).2.2.1⟩).frame 0 σ2 s2 _ _ hS R2 x4 R4' hst4
  have loop : codeAny X.M X.A (.compLoop (.ListComp elt [⟨tg, iter, ifs, 0⟩] scope cpos) 0 (.ref I) (.ref s2.heap.objs.size) (compCx X scope C).env) (RR (.ref s2.heap.objs.size) C) { s2 with heap := h4, toks := s2.toks } := by
    refine codeAny_mono (CLoop_run (X := compCx X scope C) (ip := iter.pos) hit' rfl rfl rfl (fun σ s K R h => emit_run R h) R4 hS4 hK4) ?_
    rintro r s5 ⟨rfl, σ5, R5, x5, hq⟩
    have cn : s2.heap.get? C = none := by
      cases q : s2.heap.get? C with
      | none => rfl
      | some o => exact absurd rfl (hnew C o (kp3 C o q)).1
    refine hRR _ C s5 (let ⟨m, q, _⟩ := R5.env; ⟨m, q⟩) ⟨(R2.fresh cn).2, fun q => ?_, fun q => ?_, ?_⟩ fun h' hs' => ?_
    · obtain ⟨m, ⟨o, _, _, ho, _⟩, _⟩ := R2.env
      rw [← q, cn] at ho; cases ho
    · obtain ⟨m, _, _, hc, _⟩ := R2.env
      obtain ⟨_, v, o', ho', _⟩ := hc _ (.inl q)
      rw [cn] at ho'; cases ho'
    · cases q : s.heap.get? C with
      | none => rfl
      | some o =>
        obtain ⟨o', e'⟩ := x2.live C o q
        rw [cn] at e'; cases e'
    · exact comp_leave R2 x2 fD.1 (heap_top_none s2.heap) (fun b o e => hnew b o (kp3 b o e)) kp hW R5 x5 hs' hq
  exact codeAny_compStart_list loop (wpAny_mono (hit'.self 0 _ _ hS4) (fun v s' ⟨e1, e2⟩ => by subst e1; subst e2; exact loop) fun _ _ e => e.elim)

/-- what is asked of a comprehension of one clause -/
def CompK (X : Cx) (n : Nat) (tg : Expr) (ifs : List Expr) (elt : Expr) (scope : Scope) (Q : Val → St → Prop) (items : List Val) (stay : St → Prop) (σ2 : St) : Prop :=
  ∀ C D, σ2.mem D = none → (compCx X scope C).Ok n → stay ((σ2.put D (.list [])).comp scope) ∧ CLoop (compCx X scope C) tg ifs stay (emit (compCx X scope C) D elt) items ((σ2.put D (.list [])).comp scope) (compDone D σ2 Q)

theorem AE_comp (ok : X.Ok n) {scope : Scope} (co : CompOk X scope) {tg iter elt : Expr} {ifs : List Expr} {cpos : Pos} {Q : Val → St → Prop} (hs : ∀ x, foldedSetIterable iter X.env x = pure x)
    (h : AI X tg iter σ (CompK X n tg ifs elt scope Q)) : AE X (.ListComp elt [⟨tg, iter, ifs, 0⟩] scope cpos) σ Q := fun s R => by
  show wpAny _ _ (eval _ _) _ _ s
  rw [eval_ListComp]
  refine wpAny_comprehension_free (use := none) rfl hs (closureFor_eq fun x hx hf => (co.free x hx hf).1) co.kind (fun y hy hl => by rw [← hl]; exact lookup_nodup co.nodup hy) (wpAny_mono (h s R) (fun xv s₁ h₁ => wpAny_mono h₁ (fun it s₂ h₂ => ?_) fun _ _ e => e) fun _ _ e => e)
  refine comp_block (RR := fun acc C => compPost X.M X.A _ none _ acc C) ok co h₂ ?_
  intro D C s5 ns cf hh
  obtain ⟨m, hn⟩ := ns
  refine ⟨m, hn, fun h' hs' => ?_⟩
  obtain ⟨V, σ', rv, R', x', _, q⟩ := hh h' hs'
  exact ⟨V, σ', rv, R', x', q⟩

theorem AX_assign_comp (ok : X.Ok n) {scope : Scope} (co : CompOk X scope) {tg iter elt : Expr} {ifs : List Expr} {cpos : Pos} {y : Str} {py : Pos} {Q : Fl → St → Prop} (hs : ∀ x, foldedSetIterable iter X.env x = pure x)
    (hsw : swapsWith (.ListComp elt [⟨tg, iter, ifs, 0⟩] scope cpos) (some (.Name y py)) pos.line X.env = pure true) (hw : Writes X y)
    (h : AI X tg iter σ (CompK X n tg ifs elt scope (fun V σ' => Q .next (σ'.set y V)))) : AX X (.Assign [.Name y py] (.ListComp elt [⟨tg, iter, ifs, 0⟩] scope cpos) pos) σ Q := fun s R => by
  show wpAny _ _ (exec _ _) _ _ s
  rw [exec_Assign_Name_used _ _ _ _ hsw]
  refine wpAny_bind (wpAny_standAt (wpAny_bind ?_))
  show wpAny _ _ (do let _ ← comprehension (.ListComp elt [⟨tg, iter, ifs, 0⟩] scope cpos) scope X.env _ (newList []) false (eval iter X.env) (some (assign (.Name y py) X.env))) _ _ s
  refine wpAny_bind (wpAny_mono (wpAny_comprehension_free (use := some (assign (.Name y py) X.env)) (Q := fun _ s' => ∃ σ', Rep X σ' s' ∧ Ext X σ s σ' s' ∧ Q .next σ') rfl hs (closureFor_eq fun x hx hf => (co.free x hx hf).1) co.kind
    (fun y hy hl => by rw [← hl]; exact lookup_nodup co.nodup hy) (wpAny_mono (h s R) (fun xv s₁ h₁ => wpAny_mono h₁ (fun it s₂ h₂ => ?_) fun _ _ e => e) fun _ _ e => e)) (fun _ s' ⟨σ', R', x', q⟩ => wpAny_pure (wpAny_pure ⟨_, σ', .next, R', x', q⟩)) fun _ _ e => e)
  refine comp_block (RR := fun acc C => compPost X.M X.A _ (some (assign (.Name y py) X.env)) _ acc C) ok co h₂ ?_
  intro D C s5 ns cf hh
  obtain ⟨m, hn⟩ := ns
  obtain ⟨V, σ5, rv, R5, x5, mC, q⟩ := hh s5.heap ⟨rfl, fun _ _ => rfl⟩
  show wpAny _ _ (assign (.Name y py) X.env (.ref D)) _ _ s5
  refine wpAny_mono (AG_name (Q := fun σ' => (σ' = σ5.set y V)) ok hw rfl s5 _ R5 rv) ?_ fun _ _ e => e
  rintro _ s6 ⟨_, σ6, _, R6, x6, rfl⟩
  obtain ⟨oC, es, ep, hoC, hdC, hrest⟩ := id hn
  have kC := x6.keep C oC hoC mC cf.2.1 cf.2.2.1
  refine ⟨m, ⟨oC, es, ep, kC, hdC, hrest⟩, fun h' hs' => ?_⟩
  have kb : ∀ b o, ¬ (b = C) → s6.heap.get? b = some o → h'.get? b = some o := fun b o q e => hs'.extBut b o q e
  refine ⟨_, R6.touch (W := (· = C)) (t := s6.toks) kb ?_, ?_, q⟩
  · rintro b rfl
    refine ⟨cf.1, cf.2.1, x6.mem _ _ hoC mC, fun o e => ?_⟩
    rw [kC] at e; cases e
    refine ⟨fun z => seq_no_dict z _ _ hdC, fun v z => ?_⟩
    rw [hdC] at z; cases z
  · have x06 := x5.trans R5 x6
    exact ⟨fun b o e m hL ho => kb b o (fun z => by rw [z, cf.2.2.2] at e; cases e) (x06.keep b o e m hL ho), x06.mem, fun b o e => let ⟨o', e'⟩ := x06.live b o e; ⟨o', kb b o' (fun z => by rw [z, cf.2.2.2] at e; cases e) e'⟩⟩
end
end Mine
end
section
open PySem PySem.W PyProof.Rows PySem.Calls
namespace Mine

section
variable {X : Cx} {σ : St} {n : Nat} {pos p p' pos' : Pos}

/-- a clause whose turns leave the memory alone -/
theorem CompK_pure {scope : Scope} {tg elt : Expr} {ifs : List Expr} {Q : Val → St → Prop} {items : List Val} {stay : St → Prop} {σ2 : St} (pr : Val → Bool) (f : Val → Val) (hlen : items.length ≤ 16777216)
    (hst : ∀ σ', (∀ a bx, σ2.mem a = some bx → σ'.mem a = some bx) → stay σ')
    (hb : ∀ C σ' V, (compCx X scope C).Ok n → V ∈ items → (∀ a bx, σ2.mem a = some bx → σ'.mem a = some bx) → (∀ x, scope.names.lookup x = some .free → σ'.loc x = σ2.loc x) →
      AG (compCx X scope C) tg V σ' (fun σ1 => (σ1.mem = σ'.mem ∧ ∀ x, scope.names.lookup x = some .free → σ1.loc x = σ2.loc x) ∧ ATs (compCx X scope C) ifs σ1 (fun b σ3 => σ3 = σ1 ∧ b = pr V ∧ (b = true → AE (compCx X scope C) elt σ3 (fun U σ4 => σ4 = σ3 ∧ U = f V)))))
    (hq : Made σ2 ((items.filter pr).map f) Q) : CompK X n tg ifs elt scope Q items stay σ2 := by
  intro C D hD okc
  have pm : ∀ l a bx, σ2.mem a = some bx → (σ2.put D (.list l)).mem a = some bx := fun l a bx e => by
    rw [St.put_mem, if_neg (fun q => by rw [q, hD] at e; cases e)]; exact e
  refine ⟨hst _ (pm []), ?_⟩
  have go : ∀ (r : List Val) (acc : List Val) (σ' : St), (∀ V ∈ r, V ∈ items) → acc.length + r.length ≤ 16777216 → σ'.mem = (σ2.put D (.list acc)).mem → (∀ x, scope.names.lookup x = some .free → σ'.loc x = σ2.loc x) →
      Made σ2 (acc ++ (r.filter pr).map f) Q → CLoop (compCx X scope C) tg ifs stay (emit (compCx X scope C) D elt) r σ' (compDone D σ2 Q) := by
    intro r
    induction r with
    | nil =>
      intro acc σ' _ _ hm hl hq
      refine .inl ⟨acc, ?_, ?_⟩
      · rw [hm, St.put_mem, if_pos rfl]
      · have e : σ2.back σ' = σ2 := by
          cases σ2 with
          | mk mem loc =>
            simp only [St.back]
            congr 1
            funext a
            rw [hm]
            show (if (mem a).isSome = true then (if a = D then some (Box.list acc) else mem a) else none) = mem a
            cases ea : mem a with
            | none => rfl
            | some bx =>
              have : a ≠ D := fun q => by rw [q] at ea; exact absurd (hD.symm.trans ea) nofun
              simp [this]
        rw [e]
        simpa using hq
    | cons V r ih =>
      intro acc σ' hV hl hm hloc hq
      have hm' : ∀ a bx, σ2.mem a = some bx → σ'.mem a = some bx := fun a bx e => by rw [hm]; exact pm acc a bx e
      intro s v R rv
      refine (hb C σ' V okc (hV V (.head _)) hm' hloc s v R rv).mono ?_
      rintro _ σ1 ⟨⟨hm1, hl1⟩, ht⟩
      have mono : ∀ (ifs : List Expr) (σ1 : St) (P P' : Bool → St → Prop), (∀ b σ3, P b σ3 → P' b σ3) → ATs (compCx X scope C) ifs σ1 P → ATs (compCx X scope C) ifs σ1 P' := by
        intro ifs
        induction ifs with
        | nil => intro σ1 P P' h q; exact h _ _ q
        | cons c r ih => intro σ1 P P' h q; exact q.mono fun b σ3 z => ⟨fun e => ih σ3 P P' h (z.1 e), fun e => h _ _ (z.2 e)⟩
      refine mono _ _ _ _ ?_ ht
      rintro b σ3 ⟨rfl, rfl, he⟩
      have e1 : σ3.mem = (σ2.put D (.list acc)).mem := hm1.trans hm
      refine ⟨fun hb' => ?_, fun hb' => ?_⟩
      · refine T.mono (he hb') ?_
        rintro U σ4 ⟨rfl, rfl⟩
        refine ⟨acc, by rw [e1, St.put_mem, if_pos rfl], by simp at hl; omega, ?_⟩
        have e2 : (σ4.put D (.list (acc ++ [f V]))).mem = (σ2.put D (.list (acc ++ [f V]))).mem := by
          funext a
          show (if a = D then _ else σ4.mem a) = (if a = D then _ else σ2.mem a)
          rw [e1]
          show (if a = D then _ else (if a = D then _ else σ2.mem a)) = _
          by_cases q : a = D <;> simp [q]
        refine ⟨hst _ fun a bx e => by rw [e2]; exact pm _ a bx e, ih _ _ (fun W hW => hV W (.tail _ hW)) (by simp at hl ⊢; omega) e2 hl1 ?_⟩
        rw [List.filter_cons, if_pos hb'] at hq
        simpa using hq
      · refine ⟨hst _ fun a bx e => by rw [e1]; exact pm _ a bx e, ih _ _ (fun W hW => hV W (.tail _ hW)) (by simp at hl ⊢; omega) e1 hl1 ?_⟩
        rw [List.filter_cons, if_neg (by simp [hb'])] at hq
        exact hq
  exact go items [] _ (fun _ h => h) (by simpa using hlen) rfl (fun x hx => by show (if scope.names.lookup x = some .free then σ2.loc x else none) = _; rw [if_pos hx]) (by simpa using hq)

/-- list(range(n)) -/
theorem AE_listrange (ok : X.Ok n) {e : Expr} {Q : Val → St → Prop} (N : BName X (Str.ofString "list") (.type "list")) (N' : BName X (Str.ofString "range") (.type "range"))
    (he : starEach [e] X.env = [(false, eval e X.env)]) (h : AE X e σ (fun V σ1 => ∃ b : Nat, V = .int b ∧ b ≤ 16777216 ∧ Made σ1 ((List.range b).map fun (i : Nat) => Val.int i) Q)) :
    AE X (.Call (.Name (Str.ofString "list") p) [.Call (.Name (Str.ofString "range") p') [e] [] pos'] [] pos) σ Q := fun s R => by
  refine PyProof.Rows.Call_ (name_builtin ok R N.kind N.dbg N.free N.ne N.boot ?_)
  have h' : wpAny X.M X.A (spliced (backTo pos (starEach [.Call (.Name (Str.ofString "range") p') [e] [] pos'] X.env))) (fun vs s' => wpAny X.M X.A (call (.type "list") ([] ++ vs) []) (fun a s' => ∃ b σ', RV s'.heap σ'.mem a b ∧ Rep X σ' s' ∧ Ext X σ s σ' s' ∧ Q b σ') (fun _ _ => False) s') (fun _ _ => False) s := ?_
  · exact PyProof.Rows.callWith_type rfl (evalArgs_plain h')
  refine wpAny_items_cons ?_ rfl
  refine call_type_run (K := fun Vs σ1 => ∃ b : Nat, Vs = [.int b] ∧ b ≤ 16777216 ∧ Made σ1 ((List.range b).map fun (i : Nat) => Val.int i) Q) ok N' he (by rfl) (AEs_cons he (h.mono fun V σ1 ⟨b, hV, h1, h2⟩ => AEs_nil ⟨b, by rw [hV], h1, h2⟩)) R ?_
  rintro vs Vs σ' s' rvs R' x' ⟨b, rfl, hb, hM⟩
  cases rvs with
  | cons rv r =>
    cases r
    obtain ⟨t, rfl⟩ := rv.int_inv
    refine call_range_1 ?_
    refine wpAny_items_nil ?_
    have g := R'.grow (h' := s'.heap.push { cls := .type "range", data := .fields #[.int 0 s'.toks, .int b t, .int 1 (s'.toks + 1)] }) (t := s'.toks + 1 + 1) fun _ _ e => Heap.get?_push_of_some _ e
    have en : Builtin.Range.rangeSize 0 b 1 = (b : Nat) := by
      unfold Builtin.Range.rangeSize
      rw [if_pos (by decide)]
      split
      · rw [Int.ediv_one]; omega
      · omega
    refine call_list_range ok.handled (Heap.get?_push_size _ rfl) (small_1 (by omega) (by omega) (by omega) (by omega)) en (by omega) fun h' tk acc c hk hD hI => ?_
    have rr : RVs (s'.heap.push { cls := .type "range", data := .fields #[.int 0 s'.toks, .int b t, .int 1 (s'.toks + 1)] }) σ'.mem acc.toList ((List.range b).map fun (i : Nat) => Val.int i) := by
      have hi := kll_ints acc.toList 0 b (by rw [Array.length_toList]; exact hI.1) fun j v hj => by
        obtain ⟨t, e⟩ := hI.2 j v (by rw [← hj, Array.getElem?_toList])
        exact ⟨t, e⟩
      have := RVs.of_ints (h := s'.heap.push { cls := .type "range", data := .fields #[.int 0 s'.toks, .int b t, .int 1 (s'.toks + 1)] }) (mem := σ'.mem) hi
      unfold rangeKs at this
      rw [List.map_map] at this
      have e2 : (Val.int ∘ fun (i : Nat) => (0 : Int) + (i : Int)) = fun (i : Nat) => Val.int i := by funext i; simp
      rw [e2] at this
      exact this
    obtain ⟨V, σ6, a1, a2, a3, a4⟩ := hM.take (t := tk) g.1 (heap_top_none _) hk (items := acc.toList) (k := c) (by simpa using hD) rr
    exact ⟨V, σ6, a1, a2, (x'.trans R' g.2).trans g.1 a3, a4⟩
end
end Mine
end
section
open PySem PySem.W PyProof.Rows PySem.Calls
namespace Mine

/-! comprehensions of two clauses -/
theorem compTurn_two (elt target iter target' iter' : Expr) (ifs ifs' : List Expr) (scope : Scope) (pos : Pos) (it acc : Value) (env : Env) :
    compTurn (.ListComp elt [⟨target, iter, ifs, 0⟩, ⟨target', iter', ifs', 0⟩] scope pos) 0 it acc env = (do
      standAt iter.pos
      match ← pyNext it with
      | none => pure (.done .next)
      | some v =>
        letOwnedTupleGo target it v
        assign target env v
        let mut ok := true
        for c in ifs do
          if ok then ok ← isTrue c env (eval c env)
        if ok then
          let x ← eval iter' env
          standAt iter'.pos
          let x ← foldedSetIterable iter' env x
          let _ ← runOwn (.compStart (.ListComp elt [⟨target, iter, ifs, 0⟩, ⟨target', iter', ifs', 0⟩] scope pos) 1 (← holding [x] (pyIter x)) acc env) env
        again (.compLoop (.ListComp elt [⟨target, iter, ifs, 0⟩, ⟨target', iter', ifs', 0⟩] scope pos) 0 it acc env)) := by rfl
theorem compTurn_two' (elt target iter target' iter' : Expr) (ifs ifs' : List Expr) (scope : Scope) (pos : Pos) (it acc : Value) (env : Env) :
    compTurn (.ListComp elt [⟨target, iter, ifs, 0⟩, ⟨target', iter', ifs', 0⟩] scope pos) 0 it acc env = turnT iter.pos target ifs (do
          let x ← eval iter' env
          standAt iter'.pos
          let x ← foldedSetIterable iter' env x
          let _ ← runOwn (.compStart (.ListComp elt [⟨target, iter, ifs, 0⟩, ⟨target', iter', ifs', 0⟩] scope pos) 1 (← holding [x] (pyIter x)) acc env) env) it (.compLoop (.ListComp elt [⟨target, iter, ifs, 0⟩, ⟨target', iter', ifs', 0⟩] scope pos) 0 it acc env) env := by
  rw [compTurn_two]
  unfold turnT
  refine bind_congr fun _ => bind_congr fun r => ?_
  cases r with
  | none => rfl
  | some v =>
    refine bind_congr fun _ => bind_congr fun _ => bind_congr fun ok => ?_
    cases ok with
    | false => rfl
    | true => simp only [if_true, bind_assoc, pure_bind]

section
variable {X : Cx} {σ : St} {n : Nat} {pos : Pos}

theorem codeAny_compStart_two {A : Around} {prog : Program} {w : World} {s : Shared} {R : Result → Shared → Prop} {elt target iter target' iter' : Expr} {ifs ifs' : List Expr} {scope : Scope} {cpos : Pos} {it acc : Value} {env : Env}
    (h0 : codeAny (model prog w) A (.compLoop (.ListComp elt [⟨target, iter, ifs, 0⟩, ⟨target', iter', ifs', 0⟩] scope cpos) 1 it acc env) R s)
    (h : wpAny (model prog w) A (pyIter it) (fun it' s' => codeAny (model prog w) A (.compLoop (.ListComp elt [⟨target, iter, ifs, 0⟩, ⟨target', iter', ifs', 0⟩] scope cpos) 1 it' acc env) R s')
      (notedBy (model prog w) A env fun x s' => R (.error x) s') s) :
    codeAny (model prog w) A (.compStart (.ListComp elt [⟨target, iter, ifs, 0⟩, ⟨target', iter', ifs', 0⟩] scope cpos) 1 it acc env) R s := by
  refine codeAny_of_tree ?_
  show wpAny _ _ ((compStart (.ListComp elt [⟨target, iter, ifs, 0⟩, ⟨target', iter', ifs', 0⟩] scope cpos) 1 it acc env).onRaise (fun x => do noteFrame x env; standAt theWindowsPlace)) _ _ s
  refine wpAny_notedAt ?_
  unfold compStart
  show wpAny _ _ (ask >>= _) _ _ s
  refine wpAny_bind (wpAny_askSetting (wpAny_ite ?_))
  split
  · first
      | exact wpAny_bind (wpAny_pure (wpAny_pure (And.intro rfl h0)))
      | exact wpAny_pure (And.intro rfl h0)
  · first
      | exact wpAny_bind (wpAny_rule (wpAny_bind (wpAny_standAt (wpAny_bind (wpAny_mono h (fun it' s' h' => wpAny_pure (And.intro rfl h')) fun _ _ x => x)))))
      | (refine wpAny_bind (wpAny_rule ?_); show wpAny _ _ (standAt iter'.pos >>= _) _ _ s; exact wpAny_bind (wpAny_standAt (wpAny_bind (wpAny_mono h (fun it' s' h' => wpAny_pure (And.intro rfl h')) fun _ _ x => x))))

/-- the second clause, gone through once -/
def inner2 (X : Cx) (D : Addr) (elt tg' iter' : Expr) (ifs' : List Expr) (σ : St) (K : St → Prop) : Prop :=
  AI X tg' iter' σ (fun items stay σ1 => CLoop X tg' ifs' stay (emit X D elt) items σ1 K)

theorem inner2_run (ok : X.Ok n) {D : Addr} {elt tg iter tg' iter' : Expr} {ifs ifs' : List Expr} {scope : Scope} {cpos : Pos} {K : St → Prop} {s : Shared} (hs : ∀ x, foldedSetIterable iter' X.env x = pure x) (hA : X.A.mark none = X.A) (R : Rep X σ s) (h : inner2 X D elt tg' iter' ifs' σ K) :
    wpAny X.M X.A (do
        let x ← eval iter' X.env
        standAt iter'.pos
        let x ← foldedSetIterable iter' X.env x
        let _ ← runOwn (.compStart (.ListComp elt [⟨tg, iter, ifs, 0⟩, ⟨tg', iter', ifs', 0⟩] scope cpos) 1 (← holding [x] (pyIter x)) (.ref D) X.env) X.env) (fun _ s' => ∃ σ', Rep X σ' s' ∧ Ext X σ s σ' s' ∧ K σ') (fun _ _ => False) s := by
  refine wpAny_bind (wpAny_mono (h s R) ?_ fun _ _ e => e.elim)
  intro x s1 h1
  refine wpAny_bind (wpAny_standAt (wpAny_bind (wpAny_of_eq (hs x) ?_)))
  refine wpAny_bind (wpAny_holding (wpAny_mono h1 ?_ fun _ _ e => e.elim))
  rintro it s2 ⟨I, W, S, items, stay, σ2, rfl, hit, hS, R2, x2, hW, hst, hK⟩
  have hit' := hit X rfl rfl ⟨n, ok⟩ fun b w => ⟨(hW b w).2.1, (hW b w).2.2.1⟩
  have loop : codeAny X.M X.A (.compLoop (.ListComp elt [⟨tg, iter, ifs, 0⟩, ⟨tg', iter', ifs', 0⟩] scope cpos) 1 (.ref I) (.ref D) X.env) (fun r s' => r = .ok .next ∧ ∃ σ', Rep X σ' s' ∧ Ext X σ s σ' s' ∧ K σ') s2 := by
    refine codeAny_mono (CLoop_run (ip := iter'.pos) hit' rfl rfl rfl (fun σ s K R h => emit_run R h) R2 hS hK) ?_
    rintro r s5 ⟨rfl, σ5, R5, x5, hq⟩
    refine ⟨rfl, σ5, R5, ⟨fun b o e m hb ho => ?_, fun b o e m => ?_, fun b o e => ?_⟩, hq⟩
    · have w : ¬ W b := fun w => by rw [(hW b w).1] at e; cases e
      exact x5.keep b o w (x2.keep b o e m hb ho) (x2.mem b o e m) hb ho
    · have w : ¬ W b := fun w => by rw [(hW b w).1] at e; cases e
      obtain ⟨o', e'⟩ := x2.live b o e
      exact x5.mem b o' w e' (x2.mem b o e m)
    · have w : ¬ W b := fun w => by rw [(hW b w).1] at e; cases e
      obtain ⟨o', e'⟩ := x2.live b o e
      exact x5.live b o' w e'
  refine wpAny_bind (wpAny_runOwn ?_)
  rw [hA]
  refine codeAny_mono (codeAny_compStart_two loop (wpAny_mono (hit'.self 0 _ _ hS) (fun v s' ⟨e1, e2⟩ => by subst e1; subst e2; exact loop) fun _ _ e => e.elim)) ?_
  rintro r s5 ⟨rfl, hh⟩
  exact wpAny_pure hh

theorem mark_none (ok : X.Ok n) : X.A.mark none = X.A := by
  have := ok.handled
  cases X with
  | mk B A f sc =>
    cases A
    simp only at this
    subst this
    rfl
theorem comp_block2 {scope : Scope} {tg iter elt tg' iter' : Expr} {ifs ifs' : List Expr} {cpos : Pos} {s s2 : Shared} {it : Value} {Q : Val → St → Prop} (ok : X.Ok n) (co : CompOk X scope) (hs' : ∀ C x, foldedSetIterable iter' (compCx X scope C).env x = pure x) {RR : Value → Addr → Result → Shared → Prop}
    (h : Walking X tg σ s (fun items stay σ2 => ∀ C D, σ2.mem D = none → (compCx X scope C).Ok n → stay ((σ2.put D (.list [])).comp scope) ∧ CLoop (compCx X scope C) tg ifs stay (inner2 (compCx X scope C) D elt tg' iter' ifs') items ((σ2.put D (.list [])).comp scope) (compDone D σ2 Q)) it s2)
    (hRR : ∀ D C s5, (∃ m, s5.heap.Ns C m) → (X.B.h₁.get? C = none ∧ C ≠ X.f.L ∧ C ∉ X.f.own ∧ s.heap.get? C = none) →
      (∀ h', Heap.SameBut C s5.heap h' → ∃ V σ', RV h' σ'.mem (.ref D) V ∧ Rep X σ' { s5 with heap := h' } ∧ Ext X σ s σ' { s5 with heap := h' } ∧ σ'.mem C = none ∧ Q V σ') → RR (.ref D) C (.ok .next) s5) :
    wpAny X.M X.A (newList []) (fun acc s₃ => wpAny X.M X.A (newFunctionEnv scope X.env.globals (closL X.f.cells scope.names []) [] X.env.qual none .none (some X.env)) (fun cenv s₄ =>
      codeAny X.M X.A (.compStart (.ListComp elt [⟨tg, iter, ifs, 0⟩, ⟨tg', iter', ifs', 0⟩] scope cpos) 0 it acc { cenv with scope := relabel scope X.env }) (RR acc cenv.locals) s₄) (fun _ _ => False) s₃) (fun _ _ => False) s2 := by
  obtain ⟨I, W, S, items, stay, σ2, rfl, hit, hS, R2, x2, hW, hst, hK⟩ := h
  refine wpAny_newObj_type ?_
  have fD := R2.fresh (heap_top_none s2.heap)
  have kp3 : ∀ b o, s2.heap.get? b = some o → (s2.heap.push { cls := .type "list", dict := none, data := .seq ([] : List Value).toArray }).get? b = some o := fun b o e => Heap.get?_push_of_some _ e
  have g := R2.new (t := s2.toks) (bx := .list []) (heap_top_none s2.heap) kp3 ⟨[], _, Heap.get?_push_size _ rfl, .nil⟩
  refine comp_enter ok co g.1 ?_
  intro C h4 eC kp4 okc R4 hnew cenv ecenv eL
  have hit' := hit (compCx X scope C) rfl rfl ⟨n, okc⟩ fun b w => by
    obtain ⟨_, _, _, o, e, _⟩ := hW b w
    exact hnew b o (kp3 b o e)
  rw [ecenv, eL]
  have kp : ∀ b o, s2.heap.get? b = some o → h4.get? b = some o := fun b o e => kp4 b o (kp3 b o e)
  obtain ⟨hst4, hK4⟩ := hK C s2.heap.objs.size fD.1 okc
  have g4 := g.1.grow (t := s2.toks) kp4
  have lc : ∀ x V, ((σ2.put s2.heap.objs.size (.list [])).comp scope).loc x = some V → (σ2.put s2.heap.objs.size (.list [])).loc x = some V := fun x V e => by
    have e' : (if scope.names.lookup x = some .free then (σ2.put s2.heap.objs.size (.list [])).loc x else none) = some V := e
    split at e'
    · exact e'
    · cases e'
  have R4' : Rep X ((σ2.put s2.heap.objs.size (.list [])).comp scope) { s2 with heap := h4, toks := s2.toks } := g4.1.less (fun _ _ e => e) lc
  have x4 : Ext X σ2 s2 ((σ2.put s2.heap.objs.size (.list [])).comp scope) { s2 with heap := h4, toks := s2.toks } := (g.2.trans g.1 g4.2).less fun _ _ e => e
  have hS4 : S 0 ((σ2.put s2.heap.objs.size (.list [])).comp scope) h4 := (hit X rfl rfl ⟨n, ok⟩ fun b w => ⟨(hW b w).2.1, (hW b w).2.2.1⟩).frame 0 σ2 s2 _ _ hS R2 x4 R4' hst4
  have loop : codeAny X.M X.A (.compLoop (.ListComp elt [⟨tg, iter, ifs, 0⟩, ⟨tg', iter', ifs', 0⟩] scope cpos) 0 (.ref I) (.ref s2.heap.objs.size) (compCx X scope C).env) (RR (.ref s2.heap.objs.size) C) { s2 with heap := h4, toks := s2.toks } := by
    refine codeAny_mono (CLoop_run (X := compCx X scope C) (ip := iter.pos) hit' rfl rfl (by show Sem.onRaise (compTurn _ _ _ _ _) _ = _; rw [compTurn_two']) (fun σ s K R h => inner2_run (tg := tg) (iter := iter) (ifs := ifs) (scope := scope) (cpos := cpos) okc (hs' C) (mark_none okc) R h) R4 hS4 hK4) ?_
    rintro r s5 ⟨rfl, σ5, R5, x5, hq⟩
    have cn : s2.heap.get? C = none := by
      cases q : s2.heap.get? C with
      | none => rfl
      | some o => exact absurd rfl (hnew C o (kp3 C o q)).1
    refine hRR _ C s5 (let ⟨m, q, _⟩ := R5.env; ⟨m, q⟩) ⟨(R2.fresh cn).2, fun q => ?_, fun q => ?_, ?_⟩ fun h' hs' => ?_
    · obtain ⟨m, ⟨o, _, _, ho, _⟩, _⟩ := R2.env
      rw [← q, cn] at ho; cases ho
    · obtain ⟨m, _, _, hc, _⟩ := R2.env
      obtain ⟨_, v, o', ho', _⟩ := hc _ (.inl q)
      rw [cn] at ho'; cases ho'
    · cases q : s.heap.get? C with
      | none => rfl
      | some o =>
        obtain ⟨o', e'⟩ := x2.live C o q
        rw [cn] at e'; cases e'
    · exact comp_leave R2 x2 fD.1 (heap_top_none s2.heap) (fun b o e => hnew b o (kp3 b o e)) kp hW R5 x5 hs' hq
  exact codeAny_compStart_list loop (wpAny_mono (hit'.self 0 _ _ hS4) (fun v s' ⟨e1, e2⟩ => by subst e1; subst e2; exact loop) fun _ _ e => e.elim)


def CompK2 (X : Cx) (n : Nat) (tg : Expr) (ifs : List Expr) (tg' iter' : Expr) (ifs' : List Expr) (elt : Expr) (scope : Scope) (Q : Val → St → Prop) (items : List Val) (stay : St → Prop) (σ2 : St) : Prop :=
  ∀ C D, σ2.mem D = none → (compCx X scope C).Ok n → stay ((σ2.put D (.list [])).comp scope) ∧ CLoop (compCx X scope C) tg ifs stay (inner2 (compCx X scope C) D elt tg' iter' ifs') items ((σ2.put D (.list [])).comp scope) (compDone D σ2 Q)

theorem AE_comp2 (ok : X.Ok n) {scope : Scope} (co : CompOk X scope) {tg iter elt tg' iter' : Expr} {ifs ifs' : List Expr} {cpos : Pos} {Q : Val → St → Prop} (hs : ∀ x, foldedSetIterable iter X.env x = pure x) (hs' : ∀ C x, foldedSetIterable iter' (compCx X scope C).env x = pure x)
    (h : AI X tg iter σ (CompK2 X n tg ifs tg' iter' ifs' elt scope Q)) : AE X (.ListComp elt [⟨tg, iter, ifs, 0⟩, ⟨tg', iter', ifs', 0⟩] scope cpos) σ Q := fun s R => by
  show wpAny _ _ (eval _ _) _ _ s
  rw [eval_ListComp]
  refine wpAny_comprehension_free (use := none) rfl hs (closureFor_eq fun x hx hf => (co.free x hx hf).1) co.kind (fun y hy hl => by rw [← hl]; exact lookup_nodup co.nodup hy) (wpAny_mono (h s R) (fun xv s₁ h₁ => wpAny_mono h₁ (fun it s₂ h₂ => ?_) fun _ _ e => e) fun _ _ e => e)
  refine comp_block2 (RR := fun acc C => compPost X.M X.A _ none _ acc C) ok co hs' h₂ ?_
  intro D C s5 ns cf hh
  obtain ⟨m, hn⟩ := ns
  refine ⟨m, hn, fun h' hs' => ?_⟩
  obtain ⟨V, σ', rv, R', x', _, q⟩ := hh h' hs'
  exact ⟨V, σ', rv, R', x', q⟩
end

theorem AI.mono {X : Cx} {tg iter : Expr} {σ : St} {K K' : List Val → (St → Prop) → St → Prop} (h : AI X tg iter σ K) (hk : ∀ items stay σ1, K items stay σ1 → K' items stay σ1) : AI X tg iter σ K' := fun s R => by
  refine wpAny_mono (h s R) ?_ fun _ _ e => e
  intro x s1 h1
  refine wpAny_mono h1 ?_ fun _ _ e => e
  rintro it s2 ⟨I, W, S, items, stay, σ', e, hit, hS, R2, x2, hW, hst, hK⟩
  exact ⟨I, W, S, items, stay, σ', e, hit, hS, R2, x2, hW, hst, hk _ _ _ hK⟩
theorem AG.mono {X : Cx} {t : Expr} {V : Val} {σ : St} {Q Q' : St → Prop} (h : AG X t V σ Q) (hk : ∀ σ', Q σ' → Q' σ') : AG X t V σ Q' := fun s v R rv => (h s v R rv).mono fun _ σ' q => hk σ' q

theorem put_back {σ2 σ' : St} {D : Addr} {acc : List Val} (hD : σ2.mem D = none) (hm : σ'.mem = (σ2.put D (.list acc)).mem) : σ2.back σ' = σ2 := by
  cases σ2 with
  | mk mem loc =>
    simp only [St.back]
    congr 1
    funext a
    rw [hm]
    show (if (mem a).isSome = true then (if a = D then some (Box.list acc) else mem a) else none) = mem a
    cases ea : mem a with
    | none => rfl
    | some bx =>
      have : a ≠ D := fun q => by rw [q] at ea; exact absurd (hD.symm.trans ea) nofun
      simp [this]
theorem put_put {σ σ2 : St} {D : Addr} {b b' : Box} (hm : σ.mem = (σ2.put D b).mem) : (σ.put D b').mem = (σ2.put D b').mem := by
  funext a
  show (if a = D then _ else σ.mem a) = (if a = D then _ else σ2.mem a)
  rw [hm]
  show (if a = D then _ else (if a = D then _ else σ2.mem a)) = _
  by_cases q : a = D <;> simp [q]

section
variable {X : Cx} {σ : St} {n : Nat}
/-- two clauses whose turns leave the memory alone -/
theorem CompK2_pure {scope : Scope} {tg tg' iter' elt : Expr} {Q : Val → St → Prop} {items : List Val} {stay : St → Prop} {σ2 : St} (it2 : Val → List Val) (f : Val → Val → Val) (kp : Str → Prop) (hkp : ∀ x, scope.names.lookup x = some .free → kp x)
    (hlen : (items.flatMap it2).length ≤ 16777216) (hst : ∀ σ', (∀ a bx, σ2.mem a = some bx → σ'.mem a = some bx) → stay σ')
    (hb : ∀ C σ' V, (compCx X scope C).Ok n → V ∈ items → (∀ a bx, σ2.mem a = some bx → σ'.mem a = some bx) → (∀ x, scope.names.lookup x = some .free → σ'.loc x = σ2.loc x) →
      AG (compCx X scope C) tg V σ' (fun σ1 => (σ1.mem = σ'.mem ∧ ∀ x, scope.names.lookup x = some .free → σ1.loc x = σ2.loc x) ∧ AI (compCx X scope C) tg' iter' σ1 (fun its stay' σ3 => σ3 = σ1 ∧ its = it2 V ∧ (∀ σ4, (∀ a bx, σ2.mem a = some bx → σ4.mem a = some bx) → stay' σ4) ∧
        ∀ σ4 U, U ∈ it2 V → (∀ a bx, σ2.mem a = some bx → σ4.mem a = some bx) → (∀ x, kp x → σ4.loc x = σ1.loc x) →
          AG (compCx X scope C) tg' U σ4 (fun σ5 => (σ5.mem = σ4.mem ∧ ∀ x, kp x → σ5.loc x = σ1.loc x) ∧ AE (compCx X scope C) elt σ5 (fun Z σ6 => σ6 = σ5 ∧ Z = f V U)))))
    (hq : Made σ2 (items.flatMap fun V => (it2 V).map (f V)) Q) : CompK2 X n tg [] tg' iter' [] elt scope Q items stay σ2 := by
  intro C D hD okc
  have pm : ∀ l a bx, σ2.mem a = some bx → (σ2.put D (.list l)).mem a = some bx := fun l a bx e => by
    rw [St.put_mem, if_neg (fun q => by rw [q, hD] at e; cases e)]; exact e
  refine ⟨hst _ (pm []), ?_⟩
  have go : ∀ (r : List Val) (acc : List Val) (σ' : St), (∀ V ∈ r, V ∈ items) → acc.length + (r.flatMap it2).length ≤ 16777216 → σ'.mem = (σ2.put D (.list acc)).mem → (∀ x, scope.names.lookup x = some .free → σ'.loc x = σ2.loc x) →
      Made σ2 (acc ++ r.flatMap fun V => (it2 V).map (f V)) Q → CLoop (compCx X scope C) tg [] stay (inner2 (compCx X scope C) D elt tg' iter' []) r σ' (compDone D σ2 Q) := by
    intro r
    induction r with
    | nil =>
      intro acc σ' _ _ hm hl hq
      refine .inl ⟨acc, ?_, ?_⟩
      · rw [hm, St.put_mem, if_pos rfl]
      · rw [put_back hD hm]; simpa using hq
    | cons V r ih =>
      intro acc σ' hV hl hm hloc hq
      have hm' : ∀ a bx, σ2.mem a = some bx → σ'.mem a = some bx := fun a bx e => by rw [hm]; exact pm acc a bx e
      refine AG.mono (hb C σ' V okc (hV V (.head _)) hm' hloc) ?_
      rintro σ1 ⟨⟨hm1, hl1⟩, hI⟩
      refine ⟨fun _ => ?_, fun q => nomatch q⟩
      refine AI.mono hI ?_
      rintro its stay' σ3 ⟨rfl, rfl, hst', hin⟩
      have e1 : σ3.mem = (σ2.put D (.list acc)).mem := hm1.trans hm
      have go2 : ∀ (r2 : List Val) (acc2 : List Val) (σ4 : St), (∀ U ∈ r2, U ∈ it2 V) → acc2.length + r2.length + (r.flatMap it2).length ≤ 16777216 → σ4.mem = (σ2.put D (.list acc2)).mem → (∀ x, kp x → σ4.loc x = σ3.loc x) →
          Made σ2 (acc2 ++ r2.map (f V) ++ r.flatMap fun V => (it2 V).map (f V)) Q →
          CLoop (compCx X scope C) tg' [] stay' (emit (compCx X scope C) D elt) r2 σ4 (fun σ7 => stay σ7 ∧ CLoop (compCx X scope C) tg [] stay (inner2 (compCx X scope C) D elt tg' iter' []) r σ7 (compDone D σ2 Q)) := by
        intro r2
        induction r2 with
        | nil =>
          intro acc2 σ4 _ hl4 hm4 hlo4 hq4
          refine ⟨hst _ fun a bx e => by rw [hm4]; exact pm _ a bx e, ih acc2 σ4 (fun W hW => hV W (.tail _ hW)) (by simpa using hl4) hm4 (fun x hx => (hlo4 x (hkp x hx)).trans (hl1 x hx)) ?_⟩
          simpa using hq4
        | cons U r2 ih2 =>
          intro acc2 σ4 hU hl4 hm4 hlo4 hq4
          refine AG.mono (hin σ4 U (hU U (.head _)) (fun a bx e => by rw [hm4]; exact pm _ a bx e) hlo4) ?_
          rintro σ5 ⟨⟨hm5, hl5⟩, hE⟩
          refine ⟨fun _ => ?_, fun q => nomatch q⟩
          refine T.mono hE ?_
          rintro Z σ6 ⟨rfl, rfl⟩
          have e5 : σ6.mem = (σ2.put D (.list acc2)).mem := hm5.trans hm4
          simp only [List.length_cons] at hl4
          refine ⟨acc2, by rw [e5, St.put_mem, if_pos rfl], by omega, ?_⟩
          have e6 := put_put (b' := .list (acc2 ++ [f V U])) e5
          refine ⟨hst' _ fun a bx e => by rw [e6]; exact pm _ a bx e, ih2 (acc2 ++ [f V U]) _ (fun W hW => hU W (.tail _ hW)) (by rw [List.length_append, List.length_singleton]; omega) e6 hl5 ?_⟩
          simpa using hq4
      refine go2 (it2 V) acc σ3 (fun _ h => h) (by rw [List.flatMap_cons, List.length_append] at hl; omega) e1 (fun _ _ => rfl) ?_
      simpa using hq
  exact go items [] _ (fun _ h => h) (by simpa using hlen) rfl (fun x hx => by show (if scope.names.lookup x = some .free then σ2.loc x else none) = _; rw [if_pos hx]) (by simpa using hq)

/-- a clause whose turns make lists that are to be written -/
theorem CompK_refs {scope : Scope} {tg elt : Expr} {Q : Val → St → Prop} {items : List Val} {stay : St → Prop} {σ2 : St} (f : Val → List Val) (hlen : items.length ≤ 16777216)
    (hst : ∀ σ', (∀ a bx, σ2.mem a = some bx → σ'.mem a = some bx) → stay σ')
    (hb : ∀ C σ' V, (compCx X scope C).Ok n → V ∈ items → (∀ a bx, σ2.mem a = some bx → σ'.mem a = some bx) → (∀ x, scope.names.lookup x = some .free → σ'.loc x = σ2.loc x) →
      AG (compCx X scope C) tg V σ' (fun σ1 => (σ1.mem = σ'.mem ∧ ∀ x, scope.names.lookup x = some .free → σ1.loc x = σ2.loc x) ∧ AE (compCx X scope C) elt σ1 (fun U σ4 => ∃ t, U = .ref t ∧ σ1.mem t = none ∧ σ4 = σ1.put t (.list (f V)))))
    (hq : ∀ (D : Addr) (ts : List Addr) (σ6 : St), σ2.mem D = none → ts.length = items.length → ts.Nodup → D ∉ ts → (∀ t ∈ ts, σ2.mem t = none) → σ6.loc = σ2.loc → (∀ a bx, σ2.mem a = some bx → σ6.mem a = some bx) → σ6.mem D = some (.list (ts.map Val.ref)) →
      (∀ (i : Nat) t V, ts[i]? = some t → items[i]? = some V → σ6.mem t = some (.list (f V))) → Q (.ref D) σ6) : CompK X n tg [] elt scope Q items stay σ2 := by
  intro C D hD okc
  refine ⟨hst _ fun a bx e => by
    show (σ2.put D _).mem a = some bx
    rw [St.put_mem, if_neg (fun q => by rw [q, hD] at e; cases e)]; exact e, ?_⟩
  have go : ∀ (r pre : List Val) (ts : List Addr) (σ' : St), pre ++ r = items → ts.length = pre.length → ts.Nodup → D ∉ ts → (∀ t ∈ ts, σ2.mem t = none) → (∀ a bx, σ2.mem a = some bx → σ'.mem a = some bx) → σ'.mem D = some (.list (ts.map Val.ref)) →
      (∀ (i : Nat) t V, ts[i]? = some t → items[i]? = some V → σ'.mem t = some (.list (f V))) → (∀ x, scope.names.lookup x = some .free → σ'.loc x = σ2.loc x) →
      CLoop (compCx X scope C) tg [] stay (emit (compCx X scope C) D elt) r σ' (compDone D σ2 Q) := by
    intro r
    induction r with
    | nil =>
      intro pre ts σ' he hl hn hDt ht2 hm hmD hts hloc
      refine .inr ⟨⟨σ'.mem, σ2.loc⟩, fun _ _ e => e, rfl, ?_⟩
      exact hq D ts _ hD (by rw [hl, ← he]; simp) hn hDt ht2 rfl hm hmD hts
    | cons V r ih =>
      intro pre ts σ' he hl hn hDt ht2 hm hmD hts hloc
      have hVi : items[pre.length]? = some V := by rw [← he]; simp
      refine AG.mono (hb C σ' V okc (by rw [← he]; simp) hm hloc) ?_
      rintro σ1 ⟨⟨hm1, hl1⟩, hE⟩
      refine ⟨fun _ => ?_, fun q => nomatch q⟩
      refine T.mono hE ?_
      rintro U σ4 ⟨t, rfl, ht, rfl⟩
      rw [hm1] at ht
      have htD : D ≠ t := fun q => by rw [← q, hmD] at ht; cases ht
      have htt : ∀ u ∈ ts, u ≠ t := fun u hu q => by
        obtain ⟨i, hi, e⟩ := List.mem_iff_getElem.mp hu
        have hit : ts[i]? = some u := by rw [List.getElem?_eq_getElem hi, e]
        have hil : i < items.length := by rw [← he]; simp; omega
        have := hts i u _ hit (List.getElem?_eq_getElem hil)
        rw [q, ht] at this; cases this
      have mem4 : ∀ a, ((σ1.put t (.list (f V))).put D (.list (ts.map Val.ref ++ [.ref t]))).mem a = if a = D then some (.list (ts.map Val.ref ++ [.ref t])) else if a = t then some (.list (f V)) else σ'.mem a := fun a => by
        rw [St.put_mem, St.put_mem, hm1]
      refine ⟨ts.map Val.ref, by rw [St.put_mem, if_neg htD, hm1]; exact hmD, ?_, ?_⟩
      · rw [List.length_map, hl]
        have := congrArg List.length he
        simp at this; omega
      have hm4 : ∀ a bx, σ2.mem a = some bx → ((σ1.put t (.list (f V))).put D (.list (ts.map Val.ref ++ [.ref t]))).mem a = some bx := fun a bx e => by
        rw [mem4, if_neg (fun q => by rw [q, hD] at e; cases e), if_neg (fun q => ?_)]
        · exact hm a bx e
        · have := hm a bx e
          rw [q, ht] at this; cases this
      have ht2' : σ2.mem t = none := by
        cases e : σ2.mem t with
        | none => rfl
        | some bx => rw [hm t bx e] at ht; cases ht
      refine ⟨hst _ hm4, ih (pre ++ [V]) (ts ++ [t]) _ (by simp [he]) (by simp [hl]) ?_ (by simp [hDt, htD]) ?_ hm4 ?_ ?_ hl1⟩
      · rw [List.nodup_append]
        refine ⟨hn, by simp, fun a ha b hb => ?_⟩
        rw [List.mem_singleton] at hb
        subst hb; exact htt a ha
      · intro u hu
        rcases List.mem_append.mp hu with h | h
        · exact ht2 u h
        · rw [List.mem_singleton] at h; subst h; exact ht2'
      · rw [mem4, if_pos rfl, List.map_append]; rfl
      · intro i u W hu hW
        by_cases hi : i < ts.length
        · rw [List.getElem?_append_left hi] at hu
          have hmem := List.mem_of_getElem? hu
          rw [mem4, if_neg (show ¬ u = D from fun q => hDt (by rw [← q]; exact hmem)), if_neg (htt u hmem)]
          exact hts i u W hu hW
        · have hil := (List.getElem?_eq_some_iff.mp hu).1
          have : i = pre.length := by simp at hil; omega
          subst this
          rw [← hl, List.getElem?_append_right (Nat.le_refl _)] at hu
          simp at hu
          subst hu
          rw [hVi] at hW; cases hW
          rw [mem4, if_neg (Ne.symm htD), if_pos rfl]
  exact go items [] [] _ rfl rfl List.nodup_nil (by simp) (fun _ h => nomatch h) (fun a bx e => by
    show (σ2.put D _).mem a = some bx
    rw [St.put_mem, if_neg (fun q => by rw [q, hD] at e; cases e)]; exact e) (by show (σ2.put D _).mem D = _; rw [St.put_mem, if_pos rfl]; rfl) (fun i t V h => by simp at h) (fun x hx => by show (if scope.names.lookup x = some .free then σ2.loc x else none) = _; rw [if_pos hx])
end
end Mine
end
section
open PySem PySem.W PyProof.Rows PySem.Calls
namespace Mine

section
variable {X : Cx} {σ σ' : St} {n : Nat} {s : Shared}

theorem Rep.refine (R : Rep X σ s) (hm : ∀ a bx, σ'.mem a = some bx → σ.mem a = some bx)
    (hl : ∀ x V', σ'.loc x = some V' → ∃ V, σ.loc x = some V ∧ ∀ v, RV s.heap σ.mem v V → RV s.heap σ'.mem v V') : Rep X σ' s := by
  have nn : ∀ b, σ.mem b = none → σ'.mem b = none := fun b m => by
    cases e : σ'.mem b with
    | none => rfl
    | some bx => rw [hm b bx e] at m; cases m
  refine ⟨R.keep, R.gens, R.os, fun a bx e => ⟨(R.mem a bx (hm a bx e)).1, (R.mem a bx (hm a bx e)).2.mono (fun b o e m _ => ⟨e, nn b m⟩) fun _ e => e⟩, ?_⟩
  obtain ⟨m, hn, hL, hc, hlo⟩ := R.env
  refine ⟨m, hn, nn _ hL, fun c hcc => ⟨nn _ (hc c hcc).1, (hc c hcc).2⟩, fun x V' hx => ?_⟩
  obtain ⟨V, hV, hr⟩ := hl x V' hx
  obtain ⟨hd, v, rv, hh⟩ := hlo x V hV
  refine ⟨hd, v, hr v rv, hh.imp id ?_⟩
  rintro ⟨c, e1, e2, e3, e4⟩
  exact ⟨c, e1, e2, nn _ e3, e4⟩

theorem AS_refine {ss : List Stmt} {Q : Fl → St → Prop} (hm : ∀ a bx, σ'.mem a = some bx → σ.mem a = some bx)
    (hl : ∀ s, Rep X σ s → ∀ x V', σ'.loc x = some V' → ∃ V, σ.loc x = some V ∧ ∀ v, RV s.heap σ.mem v V → RV s.heap σ'.mem v V') (h : AS X ss σ' Q) : AS X ss σ Q := fun s R => by
  have R' := R.refine hm (hl s R)
  have x : Ext X σ s σ' s := Ext.less .refl hm
  exact (h s R').then R' x

theorem RVs.refs {h : Heap} {mem : Mem} : ∀ {vs : List Value} {ts : List Addr}, RVs h mem vs (ts.map Val.ref) → vs = ts.map Value.ref
  | [], [], _ => rfl
  | [], _ :: _, r => by cases r
  | _ :: _, [], r => by cases r
  | v :: vs, t :: ts, r => by
    cases r with
    | cons a r =>
      cases a
      rw [RVs.refs r]; rfl

/-- a table of ints is written no more -/
theorem AS_freeze2 {ss : List Stmt} {Q : Fl → St → Prop} {x : Str} {T : Addr} {ts : List Addr} {rows : List (List Int)} (hx : σ.loc x = some (.ref T)) (hT : σ.mem T = some (.list (ts.map Val.ref))) (hlen : ts.length = rows.length)
    (hts : ∀ (i : Nat) t r, ts[i]? = some t → rows[i]? = some r → σ.mem t = some (.list (r.map Val.int)))
    (h : AS X ss ⟨fun a => if a = T ∨ a ∈ ts then none else σ.mem a, fun y => if y = x then some (.lst (rows.map fun r => .lst (r.map Val.int))) else σ.loc y⟩ Q) : AS X ss σ Q := by
  refine AS_refine (fun a bx e => ?_) ?_ h
  · have e' : (if a = T ∨ a ∈ ts then none else σ.mem a) = some bx := e
    split at e'
    · cases e'
    · exact e'
  intro s R y V' hy
  have hmono : ∀ {v : Value} {V : Val}, RV s.heap σ.mem v V → RV s.heap (fun a => if a = T ∨ a ∈ ts then none else σ.mem a) v V := fun r => r.mono fun b o e m _ => ⟨e, by
    show (if _ then none else σ.mem b) = none
    split
    · rfl
    · exact m⟩
  have hy' : (if y = x then some (Val.lst (rows.map fun r => .lst (r.map Val.int))) else σ.loc y) = some V' := hy
  split at hy'
  · rename_i q
    subst q
    cases hy'
    refine ⟨_, hx, fun v rv => ?_⟩
    cases rv
    obtain ⟨items, k, e, rvs⟩ := R.isL hT
    refine .lst e (by simp) ?_
    have ei := rvs.refs
    subst ei
    have key : ∀ (ts' : List Addr) (rows' : List (List Int)), ts'.length = rows'.length → (∀ (i : Nat) t r, ts'[i]? = some t → rows'[i]? = some r → t ∈ ts ∧ σ.mem t = some (.list (r.map Val.int))) →
        RVs s.heap (fun a => if a = T ∨ a ∈ ts then none else σ.mem a) (ts'.map Value.ref) (rows'.map fun r => .lst (r.map Val.int)) := by
      intro ts'
      induction ts' with
      | nil =>
        intro rows' hl _
        cases rows' with
        | nil => exact .nil
        | cons _ _ => simp at hl
      | cons t ts' ih =>
        intro rows' hl hh
        cases rows' with
        | nil => simp at hl
        | cons r rows' =>
          obtain ⟨hmem, ht⟩ := hh 0 t r rfl rfl
          obtain ⟨its, k', e', rvs'⟩ := R.isL ht
          refine .cons (.lst e' (by simp [hmem]) (RVs.of_ints rvs'.ints)) (ih rows' (by simpa using hl) fun i t r h1 h2 => hh (i + 1) t r (by simpa using h1) (by simpa using h2))
    exact key ts rows hlen fun i t r h1 h2 => ⟨List.mem_of_getElem? h1, hts i t r h1 h2⟩
  · exact ⟨V', hy', fun v rv => hmono rv⟩

set_option maxRecDepth 100000 in
theorem mul_run {prog : Program} {w : World} {A : Around} {E : Value → Shared → Prop} {s : Shared} {l : Addr} {vs : List Value} {k : Nat} {u : Tok} {x : Int} {Q : Value → Shared → Prop} (hl : IsL s.heap l vs.toArray k) (hlo : -(2 ^ 63 : Int) ≤ x) (hhi : x < 2 ^ 63) (hsz : vs.length * x.toNat ≤ 256)
    (h : Q (.ref s.heap.objs.size) { s with heap := s.heap.push { cls := .type "list", data := .seq (List.replicate x.toNat vs).flatten.toArray } }) : wpAny (model prog w) A (binaryOp .Mult (.ref l) (.int x u)) Q E s := by
  have hsz' : vs.toArray.size * x.toNat ≤ 256 := by simpa using hsz
  refine wpAny_binaryOp_repeat_ref (T := "list") (U := "int") (by decide) ⟨_, hl, rfl⟩ (fun s' => typeIs_int s' x u) noFill_list_mul F.fills_int_mul F.slot_int_rmul repeat_list F.slot_int_index.lookup
    (call_meets F.slot_int_rmul (typeIs_int s x u) F.entry_int_rmul (F.args_int_rmul_2 _ _) (lm_int_rmul_list_any x u l vs.toArray k none #[])
      ⟨hl, rfl, ⟨_, hl, rfl⟩, call_meets F.slot_list_mul ⟨_, hl, rfl⟩ F.entry_list_mul (F.args_list_mul_2 _ _)
        (lm_list_mul_any l vs.toArray k none #[] x u (by simp [Builtin.List.listFitsIndex]; omega) (by omega) (by simp [Builtin.List.listTooLong, sizeLine]; omega))
        ⟨hl, ?_⟩⟩)
  rw [listMul_foldl_if]
  exact h

theorem Op_mulList {V : Val} {vs : List Val} {k : Nat} {Q : Val → St → Prop} (hs : SeqOf σ V vs) (hk : vs.length * k ≤ 256) (hk2 : k ≤ 1000000) (h : Made σ (List.replicate k vs).flatten Q) : Op2 X .Mult V (.int k) σ Q := fun s va vb R ra rb => by
  obtain ⟨u, rfl⟩ := rb.int_inv
  obtain ⟨l, items, kk, rfl, e, rvs⟩ := hs.open R ra
  have rr : RVs s.heap σ.mem (List.replicate k items).flatten (List.replicate k vs).flatten := by
    clear h hk hk2 rb
    induction k with
    | zero => exact .nil
    | succ k ih => rw [List.replicate_succ, List.replicate_succ, List.flatten_cons, List.flatten_cons]; exact rvs.append ih
  refine mul_run e (by omega) (by omega) (by simpa [rvs.length] using hk) ?_
  rw [Int.toNat_natCast]
  exact h.take (t := s.toks) R (heap_top_none _) (fun b o e => Heap.get?_push_of_some _ e) (Heap.get?_push_size _ rfl) rr

theorem CompOk_comp (ok : X.Ok n) {sc1 scope : Scope} {C : Addr} (hk : scope.kind = .function) (hn : (scope.names.map (·.1)).Nodup)
    (hf : (scope.names.all fun x => !(x.2 == .free) || sc1.names.lookup x.1 == some .cell || sc1.names.lookup x.1 == some .free) = true) : CompOk (compCx X sc1 C) scope := by
  refine ⟨hk, hn, fun x hx e => ?_⟩
  have := List.all_eq_true.mp hf x hx
  rw [e] at this
  have q : sc1.names.lookup x.1 = some .cell ∨ sc1.names.lookup x.1 = some .free := by simpa using this
  have hcells : (compCx X sc1 C).f.cells = cellsFrom (C + 1) sc1.names [] ++ closL X.f.cells sc1.names [] := rfl
  rw [hcells]
  rcases q with q | q
  · refine ⟨?_, .inl (comp_kind' ok q (by decide))⟩
    obtain ⟨c, hc⟩ := Option.isSome_iff_exists.mp (cellsFrom_some' (n := C + 1) q)
    rw [List.lookup_append, hc]; rfl
  · refine ⟨?_, ?_⟩
    · obtain ⟨c, hc⟩ := Option.isSome_iff_exists.mp (closL_some (cells := X.f.cells) sc1.names [] x.1 (.inl (mem_of_lookup q)))
      rw [List.lookup_append, hc]
      cases (cellsFrom (C + 1) sc1.names []).lookup x.1 <;> rfl
    · have e := lookup_relabel (env := X.env) ok.kind q
      have e' : (compCx X sc1 C).env.kindOf x.1 = some (if NameKind.free = .free ∧ X.env.kindOf x.1 = some .cell then .cell else .free) := e
      rw [e']
      by_cases z : X.env.kindOf x.1 = some .cell
      · left; rw [if_pos ⟨rfl, z⟩]
      · right; rw [if_neg (fun w => z w.2)]
where
  comp_kind' {X : Cx} {n : Nat} (ok : X.Ok n) {scope : Scope} {C : Addr} {x : Str} {k : NameKind} (h : scope.names.lookup x = some k) (hk : k ≠ .free) : (compCx X scope C).env.kindOf x = some k := by
    have e := lookup_relabel (env := X.env) ok.kind h
    have e' : (compCx X scope C).env.kindOf x = some (if k = .free ∧ X.env.kindOf x = some .cell then .cell else k) := e
    rw [e', if_neg (fun q => hk q.1)]

theorem Writes_compC (ok : X.Ok n) {scope : Scope} {C : Addr} {x : Str} (hd : (x == ("__debug__" : Str)) = false) (h : scope.names.lookup x = some .cell) : Writes (compCx X scope C) x := by
  obtain ⟨c, hc⟩ := Option.isSome_iff_exists.mp (cellsFrom_some' (n := C + 1) h)
  refine ⟨hd, .inr ⟨CompOk_comp.comp_kind' ok h (by decide), c, ?_, List.mem_map.mpr ⟨(x, c), mem_of_lookup hc, rfl⟩⟩⟩
  show (cellsFrom (C + 1) scope.names [] ++ closL X.f.cells scope.names []).lookup x = some c
  rw [List.lookup_append, hc]; rfl
end
end Mine
end
section
open PySem PySem.W PyProof.Rows PySem.Calls
namespace Mine

section
variable {X : Cx} {σ : St} {n : Nat} {pos apos : Pos}

/-- xs.extend(ys) -/
theorem AE_extend {o e : Expr} {pl : Sem Bool} {Q : Val → St → Prop}
    (h : AE X o σ (fun a σ1 => ∃ l us, a = .ref l ∧ σ1.mem l = some (.list us) ∧ AE X e σ1 (fun V σ2 => ∃ vs ws, σ2.mem l = some (.list vs) ∧ SeqOf σ2 V ws ∧ vs.length + ws.length < 16777216 ∧ Q .none (σ2.put l (.list (vs ++ ws))))))
    (ha : backTo pos (starEach [e] X.env) = [(false, eval e X.env)])
    (he : eval (.Call (.Attribute o (Str.ofString "extend") apos) [e] [] pos) X.env = (do
      let ov ← eval o X.env
      standAt apos.atName
      let (f, first) ← holding [ov] (getMethod ov (Str.ofString "extend") pl)
      callWith pos f first (backTo pos (starEach [e] X.env)) [])) : AE X (.Call (.Attribute o (Str.ofString "extend") apos) [e] [] pos) σ Q := fun s R => by
  refine MethodCall_ (wpAny_mono (h s R) ?_ fun _ _ e => e) he
  rintro va s1 ⟨a, σ1, ra, R1, x1, l, us, rfl, hm, hk⟩
  obtain rfl : va = .ref l := by cases ra; rfl
  obtain ⟨iu, ku, eu, ru⟩ := R1.isL hm
  refine getMethod_list_of F.slot_list_extend F.type_list_extend (PySem.IsL.isList eu) (noDictL eu) ?_
  rw [ha]
  refine P.extend_list (wpAny_mono (hk s1 R1) ?_ fun _ _ e => e)
  rintro v s2 ⟨V, σ2, rv, R2, x2, vs, ws, hm2, hsq, hl, q⟩
  obtain ⟨items, k, e2, rvs⟩ := R2.isL hm2
  obtain ⟨b, items2, k2, rfl, eb, rws⟩ := hsq.open R2 rv
  have hs1 : items.toArray.size + items2.toArray.size < 16777216 := by simp [rvs.length, rws.length]; omega
  refine ⟨b, _, _, _, _, sz (by omega), Nat.le_succ_of_le (sz (by omega)), ?_, rfl, e2, eb, ?_⟩
  · have hlong : Builtin.List.listTooLong (items.toArray.size + items2.toArray.size) = false := by
      simp only [Builtin.List.listTooLong]
      have h2 : items.toArray.size + items2.toArray.size ≤ sizeLine := sz (by omega)
      simp only [decide_eq_false_iff_not]
      omega
    rw [hlong]; simp
  have el := PySem.IsL.update e2 (fun xs => xs ++ items2.toArray)
  rw [show items.toArray ++ items2.toArray = (items ++ items2).toArray from by simp] at el
  have kp : ∀ b' o, b' ≠ l → s2.heap.get? b' = some o → (s2.heap.update l (Obj.mapSeq fun xs => xs ++ items2.toArray)).get? b' = some o := fun b' o q e => (Heap.get?_update_other _ _ (Ne.symm q)).trans e
  have pm : ∀ b', σ2.mem b' = none → b' ≠ l := fun b' m q => by rw [q, hm2] at m; cases m
  have g := R2.upd (t := s2.toks) (bx' := .list (vs ++ ws)) hm2 kp ⟨items ++ items2, _, el, (rvs.append rws).mono fun b' o e m _ => ⟨kp b' o (pm b' m) e, by rw [St.put_mem, if_neg (pm b' m)]; exact m⟩⟩
  exact ⟨_, _, .none, g.1, (x1.trans R1 x2).trans R2 g.2, q⟩

/-- two names at once, out of two new things: the stores the other way round -/
theorem AX_swap2 (ok : X.Ok n) {x y : Str} {px py tp : Pos} {kk : Nat} {v : Expr} {Q : Fl → St → Prop} (hs : swapsWithSole [.Tuple [.Name x px, .Name y py] kk tp] v pos.line X.env = pure false)
    (hw : swappedStores [.Tuple [.Name x px, .Name y py] kk tp] v X.env = pure (some [x, y])) (wx : Writes X x) (wy : Writes X y)
    (h : AE X v σ (fun V σ1 => ∃ A B, V = .tup [A, B] ∧ Q .next ((σ1.set y B).set x A))) : AX X (.Assign [.Tuple [.Name x px, .Name y py] kk tp] v pos) σ Q := fun s R => by
  refine PyProof.Rows.Assign_Tuple_swapped (wpAny_mono (h s R) ?_ fun _ _ e => e) hs hw
  rintro va s1 ⟨V, σ1, rv, R1, x1, A, B, rfl, hq⟩
  obtain ⟨a, items, k', rfl, e, _, rvs⟩ := rv.tup_inv
  cases rvs with
  | @cons va _ _ _ ra r =>
    cases r with
    | @cons vb _ _ _ rb r =>
      cases r
      have run := wpAny_unpackItems_tuple (prog := X.B.prog) (w := X.B.w) (A := X.A) (E := fun _ _ => False) (items := [va, vb].toArray) (s := s1) (t := a) ok.handled ⟨_, e, rfl, _, rfl⟩
        (Q := fun items s₂ => wpAny X.M X.A (assignInOrder ([x, y].reverse.map fun n => bindName X.env n) items.reverse) (fun _ s' => ∃ b σ', RF s'.heap σ'.mem Flow.next b ∧ Rep X σ' s' ∧ Ext X σ s σ' s' ∧ Q b σ') (fun _ _ => False) s₂) ?_
      · exact run
      intro h' hx
      have kp : ∀ b o, s1.heap.get? b = some o → h'.get? b = some o := fun b o e => hx b o (fun q => by rw [q, heap_top_none] at e; cases e) e
      have g := R1.grow (t := s1.toks) kp
      show wpAny X.M X.A (assignInOrder [bindName X.env y, bindName X.env x] [vb, va]) _ _ _
      unfold assignInOrder
      refine wpAny_bind (wpAny_holding (wpAny_bindName ?_))
      refine wpAny_mono (store_name (Q := fun σ' => σ' = σ1.set y B) ok wy g.1 (g.2.rv R1 rb) rfl) ?_ fun _ _ e => e.elim
      rintro _ s3 ⟨_, σ3, _, R3, x3, rfl⟩
      unfold assignInOrder
      refine wpAny_bind (wpAny_holding (wpAny_bindName ?_))
      refine wpAny_mono (store_name (Q := fun σ' => σ' = (σ1.set y B).set x A) ok wx R3 (x3.rv g.1 (g.2.rv R1 ra)) rfl) ?_ fun _ _ e => e.elim
      rintro _ s4 ⟨_, σ4, _, R4, x4, rfl⟩
      unfold assignInOrder
      exact wpAny_pure ⟨.next, _, .next, R4, ((x1.trans R1 g.2).trans g.1 x3).trans R3 x4, hq⟩
end
end Mine
end
section
open PySem PySem.W PyProof.Rows PySem.Calls
namespace Mine

section
variable {X : Cx} {σ : St} {n : Nat} {pos tpos : Pos}

theorem AX_augN {o i v : Expr} {op : Operator} {Q : Fl → St → Prop}
    (h : AE X o σ (fun a σ1 => AE X i σ1 (fun b σ2 => ∃ (l : Addr) (vs : List Val) (k : Nat) (W : Val), a = .ref l ∧ b = .int k ∧ σ2.mem l = some (.list vs) ∧ vs[k]? = some W ∧ k < 2 ^ 62 ∧ AE X v σ2 (fun V σ3 => Iop2 X op W V σ3 (fun U σ4 => ∃ ws, σ4.mem l = some (.list ws) ∧ k < ws.length ∧ Q .next (σ4.put l (.list (ws.set k U))))))))
    (hi : ∀ ov iv new, augStore i ov iv new = (do holding [new, ov, iv] (setItem ov iv new); release [new, ov, iv] []; pure .next)) : AX X (.AugAssign (.Subscript o i tpos) op v pos) σ Q := fun s R => by
  refine wpAny_AugAssign_SubscriptAny (wpAny_mono (h s R) ?_ fun _ _ e => e) hi
  rintro va s1 ⟨a, σ1, ra, R1, x1, hk⟩
  refine wpAny_mono (hk s1 R1) ?_ fun _ _ e => e
  rintro vb s2 ⟨b, σ2, rb, R2, x2, l, vs, k, W, rfl, rfl, hm, hW, hk62, hv⟩
  obtain ⟨t, rfl⟩ := rb.int_inv
  obtain rfl : va = .ref l := by cases ra; rfl
  obtain ⟨items, kk, e, rvs⟩ := R2.isL hm
  obtain ⟨w, hw, rw⟩ := rvs.get hW
  refine wpAny_getItem_list (PySem.IsL.isList e) (by omega) (by omega) (by simpa using hw) ?_
  refine wpAny_mono (hv s2 R2) ?_ fun _ _ e => e
  rintro vv s3 ⟨V, σ3, rv, R3, x3, hop⟩
  refine wpAny_mono (hop s3 w vv R3 (x3.rv R2 rw) rv) ?_ fun _ _ e => e
  rintro u s4 ⟨U, σ4, ru, R4, x4, ws, hm4, hlt, q⟩
  obtain ⟨items4, k4, e4, rvs4⟩ := R4.isL hm4
  refine ki_setAt e4 (by omega) (by omega) (by simp [rvs4.length]; omega) ?_
  have el := PySem.IsL.update e4 (·.setIfInBounds k u)
  rw [show items4.toArray.setIfInBounds k u = (items4.set k u).toArray from by simp] at el
  have kp : ∀ b o, b ≠ l → s4.heap.get? b = some o → (s4.heap.update l (Obj.mapSeq (·.setIfInBounds k u))).get? b = some o := fun b o q e => (Heap.get?_update_other _ _ (Ne.symm q)).trans e
  have pm : ∀ b, σ4.mem b = none → b ≠ l := fun b m q => by rw [q, hm4] at m; cases m
  have g := R4.upd (t := s4.toks) (bx' := .list (ws.set k U)) hm4 kp ⟨items4.set k u, _, el, (RVs.set rvs4 ru).mono fun b o e m _ => ⟨kp b o (pm b m) e, by rw [St.put_mem, if_neg (pm b m)]; exact m⟩⟩
  exact ⟨_, _, .next, g.1, (((x1.trans R1 x2).trans R2 x3).trans R3 x4).trans R4 g.2, q⟩

/-! dicts with int keys -/
def storedV (kvs : List (Int × Val)) (k : Int) (V : Val) : List (Int × Val) :=
  if kvs.any (fun kv => kv.1 = k) then kvs.map (fun kv => if kv.1 = k then (kv.1, V) else kv) else kvs ++ [(k, V)]

theorem dict_look {h : Heap} {mem : Mem} {k : Int} : ∀ {kvs' : List (Int × Value)} {kvs : List (Int × Val)}, kvs'.map (·.1) = kvs.map (·.1) → RVs h mem (kvs'.map (·.2)) (kvs.map (·.2)) →
    (kvs.lookup k = none → valueAt kvs' k = none) ∧ ∀ V, kvs.lookup k = some V → ∃ v, valueAt kvs' k = some v ∧ RV h mem v V
  | [], [], _, _ => ⟨fun _ => rfl, fun V e => by simp at e⟩
  | [], _ :: _, e, _ => by simp at e
  | _ :: _, [], e, _ => by simp at e
  | (a, v) :: r', (b, V) :: r, e, rv => by
    simp only [List.map_cons, List.cons.injEq] at e
    obtain ⟨rfl, e⟩ := e
    simp only [List.map_cons] at rv
    cases rv with
    | cons rv rvs =>
      have ih := dict_look (k := k) e rvs
      unfold valueAt at ih ⊢
      rw [List.lookup_cons, List.find?_cons]
      by_cases q : a = k
      · subst q
        simp only [beq_self_eq_true, decide_true, Option.map_some]
        exact ⟨(fun z => nomatch z), (fun W z => by cases z; exact ⟨v, rfl, rv⟩)⟩
      · have q1 : (k == a) = false := by simpa using Ne.symm q
        have q2 : decide (a = k) = false := by simpa using q
        simp only [q1, q2]
        exact ih

theorem stored_rel {h : Heap} {mem : Mem} {k : Int} {v : Value} {V : Val} {kvs' : List (Int × Value)} {kvs : List (Int × Val)} (e : kvs'.map (·.1) = kvs.map (·.1)) (r : RVs h mem (kvs'.map (·.2)) (kvs.map (·.2))) (rv : RV h mem v V) :
    (stored kvs' k v).map (·.1) = (storedV kvs k V).map (·.1) ∧ RVs h mem ((stored kvs' k v).map (·.2)) ((storedV kvs k V).map (·.2)) := by
  have ea : kvs'.any (fun kv => decide (kv.1 = k)) = kvs.any (fun kv => decide (kv.1 = k)) := by
    have h1 : ∀ (l : List (Int × Value)), l.any (fun kv => decide (kv.1 = k)) = (l.map (·.1)).any (fun a => decide (a = k)) := fun l => by rw [List.any_map]; rfl
    have h2 : ∀ (l : List (Int × Val)), l.any (fun kv => decide (kv.1 = k)) = (l.map (·.1)).any (fun a => decide (a = k)) := fun l => by rw [List.any_map]; rfl
    rw [h1, h2, e]
  unfold stored storedV
  rw [ea]
  split
  · have go : ∀ (kvs' : List (Int × Value)) (kvs : List (Int × Val)), kvs'.map (·.1) = kvs.map (·.1) → RVs h mem (kvs'.map (·.2)) (kvs.map (·.2)) →
        (kvs'.map (fun kv => if kv.1 = k then (kv.1, v) else kv)).map (·.1) = (kvs.map (fun kv => if kv.1 = k then (kv.1, V) else kv)).map (·.1) ∧
        RVs h mem ((kvs'.map (fun kv => if kv.1 = k then (kv.1, v) else kv)).map (·.2)) ((kvs.map (fun kv => if kv.1 = k then (kv.1, V) else kv)).map (·.2)) := by
      intro kvs'
      induction kvs' with
      | nil =>
        intro kvs e r
        cases kvs with
        | nil => exact ⟨rfl, .nil⟩
        | cons _ _ => simp at e
      | cons p r' ih =>
        intro kvs e r
        obtain ⟨a, u⟩ := p
        cases kvs with
        | nil => simp at e
        | cons p r2 =>
          obtain ⟨b, U⟩ := p
          simp only [List.map_cons, List.cons.injEq] at e
          obtain ⟨rfl, e⟩ := e
          simp only [List.map_cons] at r
          cases r with
          | cons ru rr =>
            obtain ⟨i1, i2⟩ := ih r2 e rr
            simp only [List.map_cons]
            by_cases q : a = k
            · simp only [q, if_true]
              exact ⟨by rw [i1], .cons rv i2⟩
            · simp only [q, if_false]
              exact ⟨by rw [i1], .cons ru i2⟩
    exact go kvs' kvs e r
  · exact ⟨by simp [e], by simpa using r.snoc rv⟩

theorem intKey (prog : Program) (w : World) (k : Int) (t : Tok) : (intKind prog w).is k (.int k t) = true := by simp [intKind, Value.isInt]

theorem Cmp_inD {k : Int} {d : Addr} {kvs : List (Int × Val)} {P : Bool → St → Prop} (hm : σ.mem d = some (.dict kvs)) (hd : (d == sysModules) = false) (h : P (kvs.lookup k).isSome σ) : Cmp2 X .In (.int k) (.ref d) σ P := fun s va vb R ra rb => by
  obtain ⟨t, rfl⟩ := ra.int_inv
  obtain rfl : vb = .ref d := by cases rb; rfl
  obtain ⟨kvs', hdo, e1, e2⟩ := (R.mem d _ hm).2
  refine wpAny_in_of (knd := intKind X.B.prog X.B.w) (intKey _ _ k t) hd hdo.mapOf ?_
  have hl := dict_look (k := k) e1 e2
  have g := R.toks (t := s.toks + 1)
  have eb : (valueAt kvs' k).isSome = (kvs.lookup k).isSome := by
    cases q : kvs.lookup k with
    | none => rw [hl.1 q]; rfl
    | some V => obtain ⟨v, hv, _⟩ := hl.2 V q; rw [hv]; rfl
  rw [eb]
  exact ⟨_, σ, .bool _, g.1, g.2, _, rfl, h⟩

theorem AE_subD {v i : Expr} {Q : Val → St → Prop} (hs : ∀ o x, subscripted i false o x = operate [o, x] (getItem o x))
    (h : AE X v σ (fun a σ1 => AE X i σ1 (fun b σ2 => ∃ (d : Addr) (kvs : List (Int × Val)) (k : Int) (V : Val), a = .ref d ∧ b = .int k ∧ σ2.mem d = some (.dict kvs) ∧ kvs.lookup k = some V ∧ Q V σ2))) : AE X (.Subscript v i pos) σ Q := fun s R => by
  refine Subscript_ (wpAny_mono (h s R) ?_ fun _ _ e => e)
  rintro va s1 ⟨a, σ1, ra, R1, x1, hk⟩
  refine wpAny_mono (hk s1 R1) ?_ fun _ _ e => e
  rintro vb s2 ⟨b, σ2, rb, R2, x2, d, kvs, k, V, rfl, rfl, hm, hV, q⟩
  obtain ⟨t, rfl⟩ := rb.int_inv
  obtain rfl : va = .ref d := by cases ra; rfl
  obtain ⟨kvs', hdo, e1, e2⟩ := (R2.mem d _ hm).2
  obtain ⟨u, hu, ru⟩ := (dict_look (k := k) e1 e2).2 V hV
  have g := R2.toks (t := s2.toks + 1)
  exact tail_any hdo.typeIs slot_dict_getitem.lookup (wpAny_getItem_of (knd := intKind X.B.prog X.B.w) (intKey _ _ k t) hdo.mapOf hu ⟨V, σ2, ru, g.1, (x1.trans R1 x2).trans R2 g.2, q⟩) (hs _ _)

theorem AG_itemD {o i : Expr} {V : Val} {Q : St → Prop}
    (h : AE X o σ (fun a σ1 => AE X i σ1 (fun b σ2 => ∃ (d : Addr) (kvs : List (Int × Val)) (k : Int), a = .ref d ∧ b = .int k ∧ σ2.mem d = some (.dict kvs) ∧ kvs.length ≤ 16777216 ∧ Q (σ2.put d (.dict (storedV kvs k V)))))) :
    AG X (.Subscript o i pos) V σ Q := fun s v R rv => by
  show wpAny _ _ (assign (.Subscript o i pos) X.env v) _ _ s
  rw [assign_Subscript]
  refine wpAny_bind (wpAny_holding (wpAny_mono (h s R) ?_ fun _ _ e => e))
  rintro va s1 ⟨a, σ1, ra, R1, x1, hk⟩
  refine wpAny_bind (wpAny_holding (wpAny_mono (hk s1 R1) ?_ fun _ _ e => e))
  rintro vb s2 ⟨b, σ2, rb, R2, x2, d, kvs, k, rfl, rfl, hm, hlen, q⟩
  obtain ⟨t, rfl⟩ := rb.int_inv
  obtain rfl : va = .ref d := by cases ra; rfl
  have rv2 := x2.rv R1 (x1.rv R rv)
  obtain ⟨kvs', hdo, e1, e2⟩ := (R2.mem d _ hm).2
  have hl' : kvs'.length = kvs.length := by simpa using congrArg List.length e1
  refine wpAny_bind (wpAny_standAt (wpAny_bind (wpAny_holding ?_)))
  refine wpAny_setItem_pairs (knd := intKind X.B.prog X.B.w) (hsz := sz (by omega)) (intKey _ _ k t) hdo fun h' hd' hs' => ?_
  have kp : ∀ b o, b ≠ d → s2.heap.get? b = some o → h'.get? b = some o := fun b o q e => hs'.extBut b o q e
  have pm : ∀ b, σ2.mem b = none → b ≠ d := fun b m q => by rw [q, hm] at m; cases m
  obtain ⟨f1, f2⟩ := stored_rel (k := k) e1 e2 rv2
  have g := R2.upd (t := s2.toks + 1) (bx' := .dict (storedV kvs k V)) hm kp ⟨_, hd', f1, f2.mono fun b o e m _ => ⟨kp b o (pm b m) e, by rw [St.put_mem, if_neg (pm b m)]; exact m⟩⟩
  exact wpAny_release' ⟨(), _, trivial, g.1, (x1.trans R1 x2).trans R2 g.2, q⟩

/-- a dict of one item -/
theorem AE_dict1 {ke ve : Expr} {Q : Val → St → Prop} {i j : Int} (hk : ∃ c p, ke = .Constant (.int i) c p) (hv : ∃ c p, ve = .Constant (.int j) c p)
    (h : ∀ a, σ.mem a = none → (a == sysModules) = false → Q (.ref a) (σ.put a (.dict [(i, .int j)]))) (hsys : ∃ c o, sysModules < c ∧ X.B.h₁.get? c = some o) : AE X (.Dict [some ke] [ve] pos) σ Q := fun s R => by
  obtain ⟨c, p, rfl⟩ := hk
  obtain ⟨c', p', rfl⟩ := hv
  refine wpAny_Dict_pairs (knd := intKind X.B.prog X.B.w) (pairs := [(eval (.Constant (.int i) c p) X.env, do let x ← eval (.Constant (.int j) c' p') X.env; standAt pos; pure x)]) rfl (by simp) (by simp) ?_
  refine evalPairs_cons (wpAny_Constant_int (wpAny_bind (wpAny_Constant_int (wpAny_bind (wpAny_standAt (wpAny_pure (evalPairs_nil ?_)))))))
  refine ⟨[(i, _)], ⟨intKey _ _ i _, rfl, trivial⟩, Heap.DictOf.new _, fun h' hd' hs' => ?_⟩
  have fr := R.fresh (heap_top_none s.heap)
  have kp : ∀ b o, s.heap.get? b = some o → h'.get? b = some o := fun b o e => hs'.extBut b o (fun q => by rw [q, heap_top_none] at e; cases e) (Heap.get?_push_of_some _ e)
  have ns : (s.heap.objs.size == sysModules) = false := by
    cases q : s.heap.objs.size == sysModules with
    | false => rfl
    | true =>
      obtain ⟨c, o, hlt, ho⟩ := hsys
      have e : s.heap.objs.size = sysModules := by simpa using q
      have := Heap.lt_size (R.keep _ _ ho)
      exact absurd hlt (by rw [← e]; exact Nat.lt_asymm this)
  have hb : IsBox X.B h' (σ.put s.heap.objs.size (.dict [(i, .int j)])).mem s.heap.objs.size (.dict [(i, .int j)]) := ⟨_, hd', rfl, .cons (.int _ _) .nil⟩
  exact ⟨_, _, .ref _, (R.new (heap_top_none s.heap) kp hb).1, (R.new (heap_top_none s.heap) kp hb).2, h _ fr.1 ns⟩
end
end Mine
end
section
open PySem PySem.W PyProof.Rows PySem.Calls
namespace Mine

section
variable {X : Cx} {σ : St} {n : Nat} {pos : Pos} {Q : Val → St → Prop}
/-- sorted(xs), ints, fewer than 64 -/
theorem BC_sorted {V : Val} {ns : List Int} (hs : SeqOf σ V (ns.map Val.int)) (hl : ns.length < 64) (h : ∀ ns' : List Int, ns'.Perm ns → ns'.Pairwise (· ≤ ·) → Made σ (ns'.map Val.int) Q) : BC X (.builtin "sorted") [V] σ Q := fun s v R rv => by
  cases rv with
  | cons a r =>
    cases r
    obtain ⟨l, items, k, rfl, e, rvs⟩ := hs.open R a
    refine sorted_ints (PySem.IsL.isList e) rvs.ints (by rw [rvs.length]; simpa using hl) fun out ns' a1 a2 a3 => ?_
    obtain ⟨c, he⟩ := sortedAll_at s.heap items out
    have fr : s.heap.get? (s.heap.objs.size + 1) = none := Heap.get?_none_of_le (Nat.le_succ _)
    obtain ⟨V', σ', r1, r2, r3, r4⟩ := (h ns' a2 a3).take (t := s.toks) R fr (fun _ _ => sortedAll_old) (items := out.toList) (k := c) (by simpa [seqObj] using he) (RVs.of_ints a1)
    exact ⟨V', σ', r1, r2, r3, r4⟩
end

section
variable {prog : Program} {w : World} {A : Around} {E : Value → Shared → Prop} {s : Shared}
theorem tuple_gt_tree {x y : List Int} {a b : Addr} {vs ws : List Value} {k m : Nat} {P : PySem.Fin → Shared → Prop} (hx : IsT s.heap a vs.toArray k) (hy : IsT s.heap b ws.toArray m) (ix : IntsAre vs x) (iy : IntsAre ws y)
    (h : P (.done (.ret (.bool (lexLt y x)))) s) : wpAny (model prog w) A (Builtin.«tuple.__gt__» ⟨[.ref a, .ref b], []⟩) P E s := by
  show wpAny _ _ (isInstance (.ref b) (.type "tuple") >>= _) _ _ s
  refine wpAny_bind (wpAny_isInstance (T := "tuple") ⟨_, hy, rfl⟩ isSubtype_tuple_tuple ?_)
  simp only [Bool.not_true, Bool.false_eq_true, if_false]
  refine wpAny_bind (wpAny_tupleItemsOf hx rfl ?_)
  refine wpAny_bind (wpAny_tupleItemsOf hy rfl ?_)
  refine wpAny_bind ?_
  refine wpAny_forIn_list _
    (fun rest r s' => r.1 = none ∧ s' = s ∧ ∃ x' y' vs' ws', rest = List.zip vs' ws' ∧ IntsAre vs' x' ∧ IntsAre ws' y' ∧ lexLt y' x' = lexLt y x ∧ decide (ws'.length < vs'.length) = decide (ws.length < vs.length))
    _ ?_ ?_ _ _ ⟨rfl, rfl, x, y, vs, ws, by simp, ix, iy, rfl, rfl⟩
  · rintro ⟨u, v⟩ rest r s' ⟨hr, rfl, x', y', vs', ws', hz, hx', hy', hdec, hlen⟩
    cases hx' with
    | nil => simp at hz
    | @cons k1 t1 vs'' x'' hx'' =>
      cases hy' with
      | nil => simp at hz
      | @cons k2 t2 ws'' y'' hy'' =>
        simp only [List.zip_cons_cons, List.cons.injEq, Prod.mk.injEq] at hz
        obtain ⟨⟨rfl, rfl⟩, rfl⟩ := hz
        refine wpAny_bind (wpAny_eqBool_int ?_)
        by_cases hk : k1 = k2
        · subst hk
          simp only [beq_self_eq_true, Bool.not_true, Bool.false_eq_true, if_false]
          refine wpAny_pure ⟨rfl, rfl, x'', y'', vs'', ws'', rfl, hx'', hy'', ?_, by simpa using hlen⟩
          rw [← hdec]; simp [lexLt]
        · have hb : (k1 == k2) = false := by simpa using hk
          rw [hb]
          simp only [Bool.not_false, if_true]
          have hf : lexLt y x = decide (k2 < k1) := by rw [← hdec]; simp [lexLt, Ne.symm hk]
          rw [hf] at h
          refine wpAny_bind (wpAny_rule ?_)
          refine wpAny_bind (show wpAny _ _ (compareOp .Gt (.int k1 t1) (.int k2 t2)) _ _ _ from PyProof.Rows.gt_int ?_)
          exact wpAny_bind (wpAny_pure (wpAny_pure (wpAny_pure h)))
  · rintro ⟨r1, r2⟩ s' ⟨hr, rfl, x', y', vs', ws', hz, hx', hy', hdec, hlen⟩
    simp only at hr
    subst hr
    refine wpAny_pure ?_
    have hz' : List.zip ws' vs' = [] := by
      have := hz.symm
      rcases List.zip_eq_nil_iff.mp this with q | q
      · rw [q]; simp
      · rw [q]; simp
    have hfin : decide (ws.length < vs.length) = lexLt y x := by
      rw [← hdec, ← hlen]
      exact (lex_zip_nil hy' hx' hz').symm
    have e : Builtin.Tuple.tupleCompareSizes .Gt vs.toArray.size ws.toArray.size = .bool (lexLt y x) := by
      rw [← hfin]; simp [Builtin.Tuple.tupleCompareSizes]
    show P (.done (.ret (Builtin.Tuple.tupleCompareSizes .Gt vs.toArray.size ws.toArray.size))) s'
    rw [e]; exact h


theorem tuple_gt {x y : List Int} {a b : Addr} {vs ws : List Value} {k m : Nat} {Q : Value → Shared → Prop} (hu : A.units < cLine) (hx : IsT s.heap a vs.toArray k) (hy : IsT s.heap b ws.toArray m) (ix : IntsAre vs x) (iy : IntsAre ws y)
    (h : Q (.bool (lexLt y x)) s) : wpAny (model prog w) A (richCompare .Gt (.ref a) (.ref b)) Q E s :=
  wpAny_richCompare_same_room (op := .Gt) (T := "tuple") ⟨_, hx, rfl⟩ ⟨_, hy, rfl⟩ F.slot_tuple_gt
    (wpAny_call_entry F.slot_tuple_gt ⟨_, hx, rfl⟩ F.entry_tuple_gt (tuple_gt_tree hx hy ix iy ⟨_, rfl, (fun e => nomatch e), h⟩) (F.args_tuple_gt_2 _ _)) hu
end

section
variable {prog : Program} {w : World} {A : Around} {R : Result → Shared → Prop} {I : Addr} {fp wr : List Addr} {n : Nat} {P : Nat → Value → Prop} {St : Nat → Heap → Prop}

/-- the turns of max over things that lie in the heap -/
theorem maxT_loop (W : Walks prog w A.in1 I fp wr n P St) (bt : Nat → Nat → Bool) (K : Heap → Prop) (S : Addr) (hSf : S ∉ fp) (hK : ∀ h h', K h → (∀ b o, b ∉ wr → b ≠ S → h.get? b = some o → h'.get? b = some o) → K h')
    (hcmp : ∀ i j vi vj (s : Shared) (Q : Value → Shared → Prop) (E : Value → Shared → Prop), P i vi → P j vj → K s.heap → Q (.bool (bt i j)) s → wpAny (model prog w) A.in1 (richCompare .Gt vi vj) Q E s) :
    ∀ (k j : Nat) (s : Shared) (vb : Value) (c : Nat), n - (j + 1) = k → j + 1 ≤ n → St (j + 1) s.heap → K s.heap → P (argBest bt j) vb → IsL s.heap S #[vb, vb] c →
    (∀ v h' tk, P (argBest bt (n - 1)) v → (∀ b o, b ∉ wr → b ≠ S → s.heap.get? b = some o → h'.get? b = some o) → R (.ok (.ret v)) { s with heap := h', toks := tk }) →
    codeAny (model prog w) A (.builtin "max.loop" ⟨[.ref I, .none, .ref S], []⟩) R s := by
  have hSw : S ∉ wr := fun h => hSf (W.sub _ h)
  have hname : (toString "max" ++ toString ".loop" : String) = "max.loop" := by decide
  intro k
  induction k with
  | zero =>
    intro j s vb c hk hj hst hKs hPb hS hR
    have hin : j + 1 = n := by omega
    refine codeAny_builtin F.entry_max_loop ?_
    rw [Around.under_plainId F.plain_max_loop _]
    show wpAny _ A.in1 (seqItems? (.ref S) >>= _) _ _ s
    refine wpAny_bind (wpAny_seqItems hS rfl ?_)
    show wpAny _ A.in1 (tryCatch (pyNext (.ref I)) _ >>= _) _ _ s
    refine wpAny_bind (wpAny_tryCatch (W.done s _ _ (hin ▸ hst) fun h' tk hk' => ?_))
    have hS' := hk' S _ hSw hS
    show wpAny _ A.in1 (updateSeq S (fun _ => #[]) >>= _) _ _ _
    refine wpAny_bind (wpAny_updateSeq hS' rfl (wpAny_bind (wpAny_letGo (wpAny_pure ?_))))
    exact hR vb _ tk (by rw [← hin]; exact hPb) fun b o hbw hbS e => (Heap.get?_update_other _ _ (Ne.symm hbS)).trans (hk' b o hbw e)
  | succ k ih =>
    intro j s vb c hk hj hst hKs hPb hS hR
    have hlt : j + 1 < n := by omega
    refine codeAny_builtin F.entry_max_loop ?_
    rw [Around.under_plainId F.plain_max_loop _]
    show wpAny _ A.in1 (seqItems? (.ref S) >>= _) _ _ s
    refine wpAny_bind (wpAny_seqItems hS rfl ?_)
    show wpAny _ A.in1 (tryCatch (pyNext (.ref I)) _ >>= _) _ _ s
    refine wpAny_bind (wpAny_tryCatch (W.item (j + 1) s _ _ hlt hst fun v h' tk hP hst' hk' => ?_))
    have hS' := hk' S _ hSw hS
    have hK1 : K h' := hK _ _ hKs fun b o hb _ e => hk' b o hb e
    show wpAny _ A.in1 (tryCatch (holding [v, v] (richCompare .Gt v vb >>= _)) _ >>= _) _ _ _
    refine wpAny_bind (wpAny_tryCatch (wpAny_holding (wpAny_bind (hcmp (j + 1) (argBest bt j) v vb _ _ _ hP hPb hK1 ?_))))
    refine wpAny_bind (wpAny_holding (wpAny_truthy_bool ?_))
    refine wpAny_bind (wpAny_letGo (wpAny_pure ?_))
    cases hb : bt (j + 1) (argBest bt j) with
    | true =>
      simp only [if_true]
      refine wpAny_bind (wpAny_updateSeq hS' rfl (wpAny_bind (wpAny_letGo ?_)))
      have oth : ∀ b o, b ≠ S → h'.get? b = some o → (h'.update S (Obj.mapSeq fun _ => #[v, v])).get? b = some o := fun b o q e => (Heap.get?_update_other _ _ (Ne.symm q)).trans e
      rw [hname]
      refine wpAny_pure ⟨plainId_quiet F.plain_max_loop _, ih (j + 1) _ v _ (by omega) hlt (W.frame _ _ _ hst' fun b hbf o e => oth b o (fun q => hSf (q ▸ hbf)) e) (hK _ _ hK1 fun b o _ q e => oth b o q e) (by simp only [argBest, hb, if_true]; exact hP)
        (Heap.get?_update_self _ hS' rfl) fun v' h'' tk'' hP' hk'' => ?_⟩
      exact hR v' h'' tk'' hP' fun b o hbw hbS e => hk'' b o hbw hbS (oth b o hbS (hk' b o hbw e))
    | false =>
      simp only [Bool.false_eq_true, if_false]
      refine wpAny_bind (wpAny_letGo ?_)
      rw [hname]
      refine wpAny_pure ⟨plainId_quiet F.plain_max_loop _, ih (j + 1) _ vb c (by omega) hlt hst' hK1 (by simp only [argBest, hb, Bool.false_eq_true, if_false]; exact hPb) hS' fun v' h'' tk'' hP' hk'' => ?_⟩
      exact hR v' h'' tk'' hP' fun b o hbw hbS e => hk'' b o hbw hbS (hk' b o hbw e)

theorem maxT_first (W : Walks prog w A.in1 I fp wr n P St) (bt : Nat → Nat → Bool) (K : Heap → Prop) (S : Addr) (hSf : S ∉ fp) (hK : ∀ h h', K h → (∀ b o, b ∉ wr → b ≠ S → h.get? b = some o → h'.get? b = some o) → K h')
    (hcmp : ∀ i j vi vj (s : Shared) (Q : Value → Shared → Prop) (E : Value → Shared → Prop), P i vi → P j vj → K s.heap → Q (.bool (bt i j)) s → wpAny (model prog w) A.in1 (richCompare .Gt vi vj) Q E s)
    (hn : 0 < n) {s : Shared} {c : Nat} (hst : St 0 s.heap) (hKs : K s.heap) (hS : IsL s.heap S #[] c)
    (hR : ∀ v h' tk, P (argBest bt (n - 1)) v → (∀ b o, b ∉ wr → b ≠ S → s.heap.get? b = some o → h'.get? b = some o) → R (.ok (.ret v)) { s with heap := h', toks := tk }) :
    codeAny (model prog w) A (.builtin "max.loop" ⟨[.ref I, .none, .ref S], []⟩) R s := by
  have hSw : S ∉ wr := fun h => hSf (W.sub _ h)
  have hname : (toString "max" ++ toString ".loop" : String) = "max.loop" := by decide
  refine codeAny_builtin F.entry_max_loop ?_
  rw [Around.under_plainId F.plain_max_loop _]
  show wpAny _ A.in1 (seqItems? (.ref S) >>= _) _ _ s
  refine wpAny_bind (wpAny_seqItems hS rfl ?_)
  show wpAny _ A.in1 (tryCatch (pyNext (.ref I)) _ >>= _) _ _ s
  refine wpAny_bind (wpAny_tryCatch (W.item 0 s _ _ hn hst fun v h' tk hP hst' hk' => ?_))
  have hS' := hk' S _ hSw hS
  have hK1 : K h' := hK _ _ hKs fun b o hb _ e => hk' b o hb e
  show wpAny _ A.in1 (updateSeq S (fun _ => #[v, v]) >>= _) _ _ _
  refine wpAny_bind (wpAny_updateSeq hS' rfl ?_)
  have oth : ∀ b o, b ≠ S → h'.get? b = some o → (h'.update S (Obj.mapSeq fun _ => #[v, v])).get? b = some o := fun b o q e => (Heap.get?_update_other _ _ (Ne.symm q)).trans e
  rw [hname]
  refine wpAny_pure ⟨plainId_quiet F.plain_max_loop _, maxT_loop W bt K S hSf hK hcmp _ 0 _ v _ rfl hn (W.frame _ _ _ hst' fun b hbf o e => oth b o (fun q => hSf (q ▸ hbf)) e) (hK _ _ hK1 fun b o _ q e => oth b o q e) hP (Heap.get?_update_self _ hS' rfl) fun v' h'' tk'' hP' hk'' => ?_⟩
  exact hR v' h'' tk'' hP' fun b o hbw hbS e => hk'' b o hbw hbS (oth b o hbS (hk' b o hbw e))
end

section
variable {X : Cx} {σ : St} {n : Nat} {Q : Val → St → Prop}
theorem in1_room (ok : X.Ok n) : X.A.in1.units < cLine := by
  have := ok.units
  show X.A.units + 1 < cLine
  omega
def bestT (l : List (List Int)) : Nat := argBest (fun i j => lexLt (l.getD j []) (l.getD i [])) (l.length - 1)

theorem BC_maxT (ok : X.Ok n) {V : Val} {l : List (List Int)} (hs : SeqOf σ V (l.map fun x => .tup (x.map Val.int))) (h0 : l ≠ []) (h : Q (.tup ((l.getD (bestT l) []).map Val.int)) σ) : BC X (.builtin "max") [V] σ Q := fun s v R rv => by
  cases rv with
  | cons a r =>
    cases r
    obtain ⟨ax, items, k, rfl, e, rvs⟩ := hs.open R a
    have hlen : items.length = l.length := by rw [rvs.length]; simp
    have hpos : 0 < l.length := List.length_pos_iff.mpr h0
    have hl := PySem.IsL.isList e
    have hlt := Heap.lt_size e
    -- each item, in the heap
    have hit : ∀ i v, items.toArray[i]? = some v → i < l.length ∧ ∃ a ts c, v = .ref a ∧ IsT s.heap a (List.toArray ts) c ∧ IntsAre ts (l.getD i []) ∧ RV s.heap σ.mem v (.tup ((l.getD i []).map Val.int)) := fun i v hv => by
      have hv' : items[i]? = some v := by simpa using hv
      obtain ⟨W, hW, rw⟩ := rvs.get' hv'
      have hi : i < l.length := by simpa using (List.getElem?_eq_some_iff.mp hW).1
      rw [List.getElem?_map, List.getElem?_eq_getElem hi] at hW
      cases hW
      have eg : l.getD i [] = l[i] := by rw [List.getD_eq_getElem?_getD, List.getElem?_eq_getElem hi]; rfl
      rw [eg]
      obtain ⟨a, ts, c, rfl, et, _, rts⟩ := rw.tup_inv
      exact ⟨hi, a, ts, c, rfl, et, rts.ints, rw⟩
    have hname : (toString "max" ++ toString ".loop" : String) = "max.loop" := by decide
    refine call_function_tree F.kind_max F.plain_max F.entry_max (F.args_max1 _) ?_
    show wpAny _ X.A.in1 (Builtin.Builtins.bindParams "max" ["key", "default"] 0 ⟨[], []⟩ >>= _) _ _ s
    refine wpAny_bind (wpAny_of_eq (show Builtin.Builtins.bindParams "max" ["key", "default"] 0 ⟨[], []⟩ = pure [none, none] from rfl) ?_)
    refine wpAny_bind (wpAny_pure ?_)
    refine wpAny_bind (wpAny_pyIter_list hl ?_)
    refine wpAny_bind (wpAny_newObj_type ?_)
    rw [hname]
    refine wpAny_pure ⟨plainId_quiet F.plain_max_loop _, ?_⟩
    dsimp only
    generalize hH : (s.heap.push { cls := .type "list_iterator", data := .fields #[.ref ax, .int 0 0] }) = H1
    have hI : H1.objs.size = s.heap.objs.size + 1 := by rw [← hH, Heap.size_push]
    have kp1 : ∀ b o, s.heap.get? b = some o → H1.get? b = some o := fun b o e => by rw [← hH]; exact Heap.get?_push_of_some _ e
    have hne : ax ≠ s.heap.objs.size := Nat.ne_of_lt hlt
    refine maxT_first (A := X.A) (Walks.list (A := X.A.in1) ok.handled s.heap.objs.size ax hne items.toArray) (fun i j => lexLt (l.getD j []) (l.getD i [])) (fun h => ∀ b o, s.heap.get? b = some o → h.get? b = some o) H1.objs.size ?_ ?_ ?_ (by simpa [hlen] using hpos) (c := 0) ?_ ?_ (Heap.get?_push_size _ rfl) ?_
    · intro hm
      rw [hI] at hm
      rcases List.mem_cons.mp hm with q | q
      · exact absurd q (Nat.succ_ne_self _)
      · have q' := List.mem_singleton.mp q
        exact absurd hlt (by rw [← q']; exact Nat.not_lt.mpr (Nat.le_succ _))
    · intro h h' hk hk' b o e
      have hb := Heap.lt_size e
      exact hk' b o (fun hm => Nat.ne_of_lt hb (List.mem_singleton.mp hm)) (by rw [hI]; exact Nat.ne_of_lt (Nat.lt_succ_of_lt hb)) (hk b o e)
    · intro i j vi vj s' Q' E' hi hj hk hQ
      obtain ⟨_, a1, t1, c1, rfl, et1, it1, _⟩ := hit i vi hi
      obtain ⟨_, a2, t2, c2, rfl, et2, it2, _⟩ := hit j vj hj
      exact tuple_gt (in1_room ok) (hk _ _ et1) (hk _ _ et2) it1 it2 hQ
    · refine ⟨⟨_, Heap.get?_push_of_some _ (by rw [← hH]; exact Heap.get?_push_size _ rfl), rfl, rfl⟩, ?_⟩
      obtain ⟨o, ho, r⟩ := hl
      exact ⟨o, Heap.get?_push_of_some _ (kp1 _ _ ho), r⟩
    · intro b o e
      exact Heap.get?_push_of_some _ (kp1 b o e)
    · intro v h' tk hv hk
      have kp : ∀ b o, s.heap.get? b = some o → h'.get? b = some o := fun b o e => by
        have hb := Heap.lt_size e
        exact hk b o (fun hm => Nat.ne_of_lt hb (List.mem_singleton.mp hm)) (by rw [hI]; exact Nat.ne_of_lt (Nat.lt_succ_of_lt hb)) (Heap.get?_push_of_some _ (kp1 b o e))
      have g := R.grow (t := tk) kp
      obtain ⟨_, _, _, _, _, _, _, rv⟩ := hit _ v hv
      refine ⟨_, σ, g.2.rv R rv, g.1, g.2, ?_⟩
      have : items.toArray.size = l.length := by simpa using hlen
      rw [this]
      exact h
end
end Mine
end
section
open PySem PySem.W PyProof.Rows PySem.Calls
namespace Mine

def noSt : St := ⟨fun _ => none, fun _ => none⟩

theorem call_top {B : Base} (bok : B.Ok) {A : Around} {n : Nat} (hA : A.handled = none) (hdep : A.depth + 1 + n < recursionLimit) (hu : A.units + 3 + 10 * n + 100 < cLine)
    {name : Str} {params : List Str} {body : List Stmt} {sc : Scope} {fa : Addr} {fd : FuncData} {o : Obj} (F : FnAt B name params body sc fa fd o) {Vs : List Val} {vs : List Value} {s : Shared} {Q : Val → St → Prop}
    (hh : s.heap = B.h₁) (hg : s.gens = #[]) (hos : s.os = B.os) (rvs : RVs s.heap (fun _ => none) vs Vs) (hl : Vs.length = params.length) (h : CallD B n params body sc Vs noSt Q) :
    wpAny (model B.prog B.w) A (call (.ref fa) vs) (fun v s' => ∃ V σ' mem, RV s'.heap mem v V ∧ Q V σ' ∧ (∀ b o, s.heap.get? b = some o → s'.heap.get? b = some o) ∧ s'.os = s.os ∧ s'.gens = #[]) (fun _ _ => False) s := by
  refine wpAny_call ?_
  have keep : ∀ b o, B.h₁.get? b = some o → s.heap.get? b = some o := fun b o e => by rw [hh]; exact e
  have hvl : vs.length = params.length := rvs.length.trans hl
  refine codeAny_call_cells (body := body) (binds := params.zip vs) (by omega) (keep _ _ F.get) F.data (bok.lim.keeps keep) (F.code.keeps keep) F.body (F.bind vs hvl) F.clo ?_ ?_ (by rw [F.scope]; exact F.co) (by rw [F.scope]; exact F.gen) (by rw [F.scope]; exact F.kind)
  · intro x hx
    have hm : x.1 ∈ params := by
      obtain ⟨a, b⟩ := x
      exact (List.of_mem_zip hx).1
    rw [F.scope]
    rcases (F.kinds _ hm).2 with k | k
    · exact .inl k
    · exact .inr ⟨k, cellsFrom_some' k⟩
  · intro s₁ C
    have eE : callEnvC fd s.heap.objs.size fa = (fnFm s.heap.objs.size (fd.qualname ++ ".<locals>.") fa fd.code sc).env sc := by
      simp only [callEnvC, newEnv, Fm.env, fnFm, F.scope, F.globals, F.builtins]
    rw [eE] at C ⊢
    generalize hX' : (⟨B, A.deeper ((fnFm s.heap.objs.size (fd.qualname ++ ".<locals>.") fa fd.code sc).env sc), fnFm s.heap.objs.size (fd.qualname ++ ".<locals>.") fa fd.code sc, sc⟩ : Cx) = X'
    have eB : X'.B = B := by rw [← hX']
    have eA : X'.A = A.deeper ((fnFm s.heap.objs.size (fd.qualname ++ ".<locals>.") fa fd.code sc).env sc) := by rw [← hX']
    have eF : X'.f = fnFm s.heap.objs.size (fd.qualname ++ ".<locals>.") fa fd.code sc := by rw [← hX']
    have eS : X'.sc = sc := by rw [← hX']
    have eL : X'.f.L = s.heap.objs.size := by rw [eF]; rfl
    have eC : X'.f.cells = cellsFrom (s.heap.objs.size + 1) sc.names [] := by rw [eF]; rfl
    have eO : X'.f.own = (cellsFrom (s.heap.objs.size + 1) sc.names []).map (·.2) := by rw [eF]; rfl
    have above : ∀ c ∈ X'.f.own, s.heap.objs.size < c := by
      intro c hc
      rw [eO] at hc
      obtain ⟨⟨y, c'⟩, hm, rfl⟩ := List.mem_map.mp hc
      exact C.above y c' hm
    have notlive : ∀ c, s.heap.objs.size ≤ c → B.h₁.get? c = none := fun c hc => by rw [← hh]; exact Heap.get?_none_of_le hc
    have ok' : X'.Ok n := by
      refine ⟨eB ▸ bok, eS ▸ F.kind, ?_, ?_, ?_, ?_, ?_, ?_⟩
      · rw [eA]; exact hA
      · rw [eA]; show A.depth + 1 + n < _; exact hdep
      · rw [eA]; show A.units + 3 + 10 * n + 100 < _; exact hu
      · rw [eB, eL]; exact notlive _ (Nat.le_refl _)
      · intro c hc
        refine ⟨?_, by rw [eL]; exact Nat.ne_of_gt (above c hc)⟩
        rw [eB]; exact notlive c (Nat.le_of_lt (above c hc))
      · intro x y c hx hy
        rw [eC] at hx hy
        exact name_of_addr C.apart (mem_of_lookup hx) (mem_of_lookup hy)
    obtain ⟨h₁, tk₁, rfl, hk₁⟩ := C.done
    have R' : Rep X' (noSt.enter params Vs) { s with heap := h₁, toks := tk₁ } := by
      refine ⟨fun b o e => hk₁ b o (keep b o (by rw [← eB]; exact e)), hg, by rw [eB]; exact hos, (fun a bx e => nomatch e), ?_⟩
      refine ⟨_, eL ▸ C.toInCall.ns, rfl, fun c hc => ?_, fun x V hx => ?_⟩
      · replace hc : c ∈ X'.f.own := hc.elim id fun ⟨x, hx⟩ => by rw [eC] at hx; rw [eO]; exact List.mem_map.mpr ⟨(x, c), hx, rfl⟩
        refine ⟨rfl, ?_⟩
        rw [eO] at hc
        obtain ⟨⟨y, c'⟩, hm, rfl⟩ := List.mem_map.mp hc
        have nd : ((cellsFrom (s.heap.objs.size + 1) sc.names []).map (·.1)).Nodup := by
          rw [← cellsFrom_names sc.names 0 (s.heap.objs.size + 1) [] [] rfl]; exact F.cellNd
        exact ⟨_, C.cell y c' (lookup_of_mem_nodup nd hm)⟩
      · obtain ⟨v, hv, rv⟩ := zip_lookup rvs hx
        have hmem := zip_lookup_mem hx
        have nd : ((params.zip vs).map (·.1)).Nodup := by
          rw [List.map_fst_zip (by omega)]; exact F.nodup
        refine ⟨(F.kinds x hmem).1, v, rv.mono fun b o e _ _ => ⟨hk₁ b o e, rfl⟩, ?_⟩
        have ek : X'.env.kindOf x = sc.names.lookup x := by
          show X'.sc.names.lookup x = _; rw [eS]
        rcases (F.kinds x hmem).2 with k | k
        · exact .inl ⟨ek.trans k, bindL_in _ _ x v nd hv k⟩
        · obtain ⟨c, hc⟩ := Option.isSome_iff_exists.mp (cellsFrom_some' (n := s.heap.objs.size + 1) k)
          refine .inr ⟨c, eC ▸ hc, ?_, rfl, .inl (ek.trans k)⟩
          have q := C.cell x c hc
          rw [bindC_in _ _ x v nd hv (by show sc.names.lookup x ≠ _; rw [k]; decide)] at q
          exact q
    have eX : (⟨B, X'.A, fnFm X'.f.L (fd.qualname ++ ".<locals>.") fa fd.code sc, sc⟩ : Cx) = X' := by rw [eL, ← hX']
    have hc := h X'.A X'.f.L (fd.qualname ++ ".<locals>.") fa fd.code (by rw [eX]; exact ok')
    rw [eX] at hc
    have hw := hc _ R'
    rw [show (model B.prog B.w) = X'.M from by rw [← hX'], ← eA, show (fnFm s.heap.objs.size (fd.qualname ++ ".<locals>.") fa fd.code sc).env sc = X'.env from by rw [← hX']]
    refine wpAny_mono hw ?_ fun _ _ e => e.elim
    rintro f s' ⟨fl, σ', rf, R'', x', q⟩
    refine ⟨fl.val, _, σ'.mem, ?_, q, fun b o e => R''.keep b o (by rw [eB, ← hh]; exact e), by rw [R''.os, eB, hos], R''.gens⟩
    cases rf with
    | ret r => exact r
    | next => exact .none
    | brk => exact .none
    | cont => exact .none

theorem FnAt_of_top {p : Program} {loose : List Str} {mean : ExcName → Option Value} {mg mb : Str → Option Value} {h : Heap} (T : Top p loose mean mg mb h) {prog : Program} {w : World} {os : OsState} {d : DefRec} (hd : d ∈ recsOf p) {params : List Str}
    (bind : ∀ pm code doc vals, vals.length = params.length → bindArgs (docDef d.name d.params d.body d.scope pm code doc) ⟨vals, []⟩ = pure (params.zip vals)) (nodup : params.Nodup)
    (kinds : ∀ x ∈ params, (x == ("__debug__" : Str)) = false ∧ (d.scope.names.lookup x = some .local ∨ (d.scope.names.lookup x = some .cell)))
    (cellNd : ((cellsFrom 0 d.scope.names []).map (·.1)).Nodup) (co : d.scope.isCoroutine = false) (gen : d.scope.isGenerator = false) (kind : d.scope.kind = .function) :
    ∃ fa fd o, FnAt ⟨prog, w, h, os, mg, mb⟩ d.name params d.body d.scope fa fd o := by
  obtain ⟨a, o, pm, code, doc, h1, h2, h3, h4⟩ := T.fn d hd
  exact ⟨a, _, o, ⟨h1, h2, h3, h4, rfl, rfl, rfl, rfl, rfl, bind pm code doc, nodup, kinds, cellNd, co, gen, kind⟩⟩
end Mine
end
section
open PySem PySem.W PyProof.Rows PySem.Calls
set_option maxRecDepth 100000
namespace Mine

def recAt (p : Program) (i : Nat) : DefRec := match p.main.body[i]? with
  | some (.FunctionDef name a b _ _ _ sc _ _ pos) => ⟨name, a, b, sc, pos⟩
  | _ => ⟨Str.ofString "", ⟨[], [], none, [], [], none, []⟩, [], ⟨.function, [], false, false, []⟩, ⟨0, 0, 0, 0⟩⟩

theorem loc_hit {σ : St} {x : Str} {V : Val} : (σ.set x V).loc x = some V := by rw [St.set_loc, if_pos rfl]
theorem loc_miss {σ : St} {x y : Str} {V : Val} {W : Option Val} (h : (y == x) = false) (e : σ.loc y = W) : (σ.set x V).loc y = W := by
  rw [St.set_loc, if_neg (by simpa using h)]; exact e
theorem loc_put {σ : St} {a : Addr} {b : Box} {y : Str} {W : Option Val} (e : σ.loc y = W) : (σ.put a b).loc y = W := e
theorem mem_hit {σ : St} {a : Addr} {b : Box} : (σ.put a b).mem a = some b := by rw [St.put_mem, if_pos rfl]
theorem mem_miss {σ : St} {a c : Addr} {b : Box} {o : Option Box} (h : c ≠ a) (e : σ.mem c = o) : (σ.put a b).mem c = o := by rw [St.put_mem, if_neg h]; exact e
theorem mem_set {σ : St} {x : Str} {V : Val} {c : Addr} {o : Option Box} (e : σ.mem c = o) : (σ.set x V).mem c = o := e

theorem back_put {σ σ' : St} {a : Addr} {bx : Box} (h : (σ.mem a).isSome = true) (e : σ'.mem a = some bx) (f : ∀ b, b ≠ a → (σ.mem b).isSome = true → σ'.mem b = σ.mem b) : σ.back σ' = σ.put a bx := by
  cases σ with
  | mk mem loc =>
    simp only [St.back, St.put]
    congr 1
    funext b
    by_cases q : b = a
    · subst q
      simp only at h
      simp [h, e]
    · rw [if_neg q]
      by_cases hb : (mem b).isSome = true
      · rw [if_pos hb]; exact f b q hb
      · rw [if_neg hb]
        cases hm : mem b with
        | none => rfl
        | some z => simp [hm] at hb
theorem back_same {σ σ' : St} (f : ∀ b, (σ.mem b).isSome = true → σ'.mem b = σ.mem b) : σ.back σ' = σ := by
  cases σ with
  | mk mem loc =>
    simp only [St.back]
    congr 1
    funext b
    by_cases hb : (mem b).isSome = true
    · rw [if_pos hb]; exact f b hb
    · rw [if_neg hb]
      cases hm : mem b with
      | none => rfl
      | some z => simp [hm] at hb

abbrev El := List Int
def tv (x : El) : Val := .tup (x.map Val.int)

def sd (x : El) (s : Nat) (p : Nat) (l : List El) : List El :=
  if _h : s < p then
    match l[(p - 1) / 2]? with
    | some y => if lexLt y x = true then sd x s ((p - 1) / 2) (l.set p y) else l.set p x
    | none => l.set p x
  else l.set p x
termination_by p
decreasing_by omega

theorem sd_stop {x : El} {s p : Nat} {l : List El} (h : ¬ s < p) : sd x s p l = l.set p x := by rw [sd, dif_neg h]
theorem sd_up {x y : El} {s p : Nat} {l : List El} (h : s < p) (hy : l[(p - 1) / 2]? = some y) (hl : lexLt y x = true) : sd x s p l = sd x s ((p - 1) / 2) (l.set p y) := by
  rw [sd, dif_pos h, hy]; simp [hl]
theorem sd_end {x y : El} {s p : Nat} {l : List El} (h : s < p) (hy : l[(p - 1) / 2]? = some y) (hl : lexLt y x = false) : sd x s p l = l.set p x := by
  rw [sd, dif_pos h, hy]; simp [hl]
theorem sd_length {x : El} {s : Nat} : ∀ (p : Nat) (l : List El), (sd x s p l).length = l.length := by
  intro p
  induction p using Nat.strongRecOn with
  | ind p ih =>
    intro l
    by_cases h : s < p
    · cases hy : l[(p - 1) / 2]? with
      | none => rw [sd, dif_pos h, hy]; simp
      | some y =>
        cases hl : lexLt y x with
        | true => rw [sd_up h hy hl, ih _ (by omega)]; simp
        | false => rw [sd_end h hy hl]; simp
    · rw [sd_stop h]; simp

def su (x : El) (p : Nat) (l : List El) : List El × Nat :=
  if _h : 2 * p + 1 < l.length then
    let c := if 2 * p + 2 < l.length ∧ lexLt (l.getD (2 * p + 2) []) (l.getD (2 * p + 1) []) = false then 2 * p + 2 else 2 * p + 1
    su x c (l.set p (l.getD c []))
  else (l, p)
termination_by l.length - p
decreasing_by
  simp only [List.length_set]
  split <;> omega

theorem getD_of {l : List El} {i : Nat} {y : El} (h : l[i]? = some y) : l.getD i [] = y := by rw [List.getD_eq_getElem?_getD, h]; rfl

theorem Writes_fn {B : Base} {A : Around} {L : Addr} {qual : Str} {fa : Addr} {code : Value} {sc : Scope} {X : Cx} (hX : (⟨B, A, fnFm L qual fa code sc, sc⟩ : Cx) = X) {x : Str} (hd : (x == ("__debug__" : Str)) = false)
    (h : (sc.names.lookup x == some .local || sc.names.lookup x == some .cell) = true) : Writes X x := by
  subst hX
  refine ⟨hd, ?_⟩
  rcases Bool.or_eq_true_iff.mp h with q | q
  · have q' : sc.names.lookup x = some .local := by simpa using q
    exact .inl q'
  · have q' : sc.names.lookup x = some .cell := by simpa using q
    obtain ⟨c, hc⟩ := Option.isSome_iff_exists.mp (cellsFrom_some' (n := L + 1) q')
    exact .inr ⟨q', c, hc, List.mem_map.mpr ⟨(x, c), mem_of_lookup hc, rfl⟩⟩

theorem comp_kind {X : Cx} {n : Nat} (ok : X.Ok n) {scope : Scope} {C : Addr} {x : Str} {k : NameKind} (h : scope.names.lookup x = some k) (hk : k ≠ .free) : (compCx X scope C).env.kindOf x = some k := by
  have e := lookup_relabel (env := X.env) ok.kind h
  have e' : (compCx X scope C).env.kindOf x = some (if k = .free ∧ X.env.kindOf x = some .cell then .cell else k) := e
  rw [e', if_neg (fun q => hk q.1)]

theorem Writes_comp {X : Cx} {n : Nat} (ok : X.Ok n) {scope : Scope} {C : Addr} {x : Str} (hd : (x == ("__debug__" : Str)) = false) (h : scope.names.lookup x = some .local) : Writes (compCx X scope C) x :=
  ⟨hd, .inl (comp_kind ok h (by decide))⟩

theorem BName_fn {B : Base} {A : Around} {L : Addr} {qual : Str} {fa : Addr} {code : Value} {sc : Scope} {X : Cx} (hX : (⟨B, A, fnFm L qual fa code sc, sc⟩ : Cx) = X) {x : Str} {v : Value} (hg : B.mg x = none) (hd : (x == ("__debug__" : Str)) = false) (hn : (x == ("__name__" : Str)) = false)
    (h : sc.names.lookup x = some .globalImplicit) (hb : bootBuiltins x = some v) : BName X x v := by
  subst hX
  exact ⟨h, hd, hg, by simpa using hn, hb⟩
theorem BName_comp {X : Cx} {n : Nat} (ok : X.Ok n) {scope : Scope} {C : Addr} {x : Str} {v : Value} (hg : X.B.mg x = none) (hd : (x == ("__debug__" : Str)) = false) (hn : (x == ("__name__" : Str)) = false)
    (h : scope.names.lookup x = some .globalImplicit) (hb : bootBuiltins x = some v) : BName (compCx X scope C) x v :=
  ⟨comp_kind ok h (by decide), hd, hg, by simpa using hn, hb⟩

section
variable {X : Cx} {σ : St} {n : Nat} {pos : Pos} {Q : Val → St → Prop}
theorem AE_subN {v i : Expr} (hs : ∀ o x, subscripted i false o x = operate [o, x] (getItem o x))
    (h : AE X v σ (fun a σ1 => AE X i σ1 (fun b σ2 => ∃ (k : Nat) (vs : List Val) (V : Val), b = .int k ∧ SeqOf σ2 a vs ∧ k < 2 ^ 62 ∧ vs[k]? = some V ∧ Q V σ2))) : AE X (.Subscript v i pos) σ Q :=
  AE_sub hs (T.mono h fun _ _ h1 => T.mono h1 fun b σ2 ⟨k, vs, V, e, sq, hk, hv, q⟩ => ⟨k, V, e, .inl ⟨vs, sq, .inl ⟨by omega, by omega, by simpa using hv⟩⟩, q⟩)
theorem AG_itemN {o i : Expr} {V : Val} {Q : St → Prop}
    (h : AE X o σ (fun a σ1 => AE X i σ1 (fun b σ2 => ∃ (l : Addr) (vs : List Val) (k : Nat), a = .ref l ∧ b = .int k ∧ σ2.mem l = some (.list vs) ∧ k < vs.length ∧ vs.length < 2 ^ 62 ∧ Q (σ2.put l (.list (vs.set k V)))))) :
    AG X (.Subscript o i pos) V σ Q :=
  AG_item (T.mono h fun _ _ h1 => T.mono h1 fun b σ2 ⟨l, vs, k, ea, e, hm, hk, hl, q⟩ => ⟨l, vs, k, ea, e, hm, .inl ⟨by omega, by omega, by omega, by simpa using q⟩⟩)
end

theorem map_get {l : List El} {k : Nat} {x : El} (h : l[k]? = some x) : (l.map tv)[k]? = some (tv x) := by rw [List.getElem?_map, h]; rfl
theorem map_set {l : List El} {k : Nat} {x : El} : (l.map tv).set k (tv x) = (l.set k x).map tv := by rw [List.map_set]
theorem get_lt {l : List El} {k : Nat} {x : El} (h : l[k]? = some x) : k < l.length := (List.getElem?_eq_some_iff.mp h).1

/-- the loop of a sift-down, so far -/
structure SdI (a : Addr) (s : Nat) (x : El) (res : List El) (σ₀ : St) (p : Nat) (σ : St) : Prop where
  st : ∃ l : List El, σ.mem a = some (.list (l.map tv)) ∧ l.length = res.length ∧ p < l.length ∧ sd x s p l = res
  heap : σ.loc (Str.ofString "heap") = some (.ref a)
  start : σ.loc (Str.ofString "startpos") = some (.int s)
  new : σ.loc (Str.ofString "newitem") = some (tv x)
  pos : σ.loc (Str.ofString "pos") = some (.int p)
  frame : ∀ b, b ≠ a → σ.mem b = σ₀.mem b

/-- and where it stops -/
structure SdE (a : Addr) (x : El) (res : List El) (σ₀ : St) (fl : Fl) (σ : St) : Prop where
  fl : fl = .next
  st : ∃ (q : Nat) (l : List El), σ.mem a = some (.list (l.map tv)) ∧ q < l.length ∧ l.length = res.length ∧ l.set q x = res ∧ σ.loc (Str.ofString "pos") = some (.int q)
  heap : σ.loc (Str.ofString "heap") = some (.ref a)
  new : σ.loc (Str.ofString "newitem") = some (tv x)
  frame : ∀ b, b ≠ a → σ.mem b = σ₀.mem b

def suC (p : Nat) (l : List El) : Nat := if 2 * p + 2 < l.length ∧ lexLt (l.getD (2 * p + 2) []) (l.getD (2 * p + 1) []) = false then 2 * p + 2 else 2 * p + 1
theorem su_step {x : El} {p : Nat} {l : List El} (h : 2 * p + 1 < l.length) : su x p l = su x (suC p l) (l.set p (l.getD (suC p l) [])) := by
  rw [su, dif_pos h]; rfl
theorem su_stop {x : El} {p : Nat} {l : List El} (h : ¬ 2 * p + 1 < l.length) : su x p l = (l, p) := by rw [su, dif_neg h]
theorem suC_lt {p : Nat} {l : List El} (h : 2 * p + 1 < l.length) : suC p l < l.length ∧ p < suC p l := by
  unfold suC; split <;> omega
theorem su_ok {x : El} : ∀ (k p : Nat) (l : List El), l.length - p = k → p < l.length → (su x p l).1.length = l.length ∧ (su x p l).2 < l.length := by
  intro k
  induction k using Nat.strongRecOn with
  | ind k ih =>
    intro p l hk hp
    by_cases h : 2 * p + 1 < l.length
    · have hc := suC_lt h
      rw [su_step h]
      have := ih (l.length - suC p l) (by omega) (suC p l) (l.set p (l.getD (suC p l) [])) (by simp) (by simpa using hc.1)
      simpa using this
    · rw [su_stop h]; exact ⟨rfl, hp⟩
def sup (x : El) (p : Nat) (l : List El) : List El := sd x p (su x p l).2 ((su x p l).1.set (su x p l).2 x)
theorem sup_length {x : El} {p : Nat} {l : List El} (h : p < l.length) : (sup x p l).length = l.length := by
  unfold sup; rw [sd_length]; simp [(su_ok _ p l rfl h).1]

/-- the loop of a sift-up, so far -/
structure SuI (a : Addr) (s : Nat) (x : El) (res : List El × Nat) (N : Nat) (σ₀ : St) (k : Nat) (σ : St) : Prop where
  st : ∃ (p : Nat) (l : List El), σ.mem a = some (.list (l.map tv)) ∧ l.length = N ∧ p < N ∧ k = N - p ∧ su x p l = res ∧ σ.loc (Str.ofString "pos") = some (.int p) ∧ σ.loc (Str.ofString "childpos") = some (.int (2 * p + 1 : Nat))
  heap : σ.loc (Str.ofString "heap") = some (.ref a)
  start : σ.loc (Str.ofString "startpos") = some (.int s)
  new : σ.loc (Str.ofString "newitem") = some (tv x)
  fin : σ.loc (Str.ofString "endpos") = some (.int N)
  frame : ∀ b, b ≠ a → σ.mem b = σ₀.mem b
structure SuE (a : Addr) (s : Nat) (x : El) (res : List El × Nat) (σ₀ : St) (fl : Fl) (σ : St) : Prop where
  fl : fl = .next
  st : σ.mem a = some (.list (res.1.map tv))
  pos : σ.loc (Str.ofString "pos") = some (.int res.2)
  heap : σ.loc (Str.ofString "heap") = some (.ref a)
  start : σ.loc (Str.ofString "startpos") = some (.int s)
  new : σ.loc (Str.ofString "newitem") = some (tv x)
  frame : ∀ b, b ≠ a → σ.mem b = σ₀.mem b
end Mine
end
section
namespace Mine

theorem lex_irrefl : ∀ x : El, lexLt x x = false
  | [] => rfl
  | a :: r => by simp [lexLt, lex_irrefl r]
theorem lex_trans : ∀ {x y z : El}, lexLt x y = true → lexLt y z = true → lexLt x z = true
  | [], [], _, h, _ => by simp [lexLt] at h
  | [], b :: y, [], _, h => by simp [lexLt] at h
  | [], b :: y, c :: z, _, _ => by simp [lexLt]
  | a :: x, [], _, h, _ => by simp [lexLt] at h
  | a :: x, b :: y, [], _, h => by simp [lexLt] at h
  | a :: x, b :: y, c :: z, h1, h2 => by
    simp only [lexLt] at h1 h2 ⊢
    have ih := @lex_trans x y z
    by_cases e1 : a = b <;> by_cases e2 : b = c
    · subst e1; subst e2; simp at h1 h2 ⊢; exact ih h1 h2
    · subst e1; simp [e2] at h1 h2 ⊢; exact h2
    · subst e2; simp [e1] at h1 h2 ⊢; exact h1
    · simp [e1, e2] at h1 h2
      have : a ≠ c := by omega
      simp [this]; omega
theorem lex_total : ∀ {x y : El}, lexLt x y = false → lexLt y x = false → x = y
  | [], [], _, _ => rfl
  | [], b :: y, h, _ => by simp [lexLt] at h
  | a :: x, [], _, h => by simp [lexLt] at h
  | a :: x, b :: y, h1, h2 => by
    simp only [lexLt] at h1 h2
    by_cases e : a = b
    · subst e; simp at h1 h2; rw [lex_total h1 h2]
    · have e' : b ≠ a := Ne.symm e
      simp [e, e'] at h1 h2; omega
theorem lex_asymm {x y : El} (h : lexLt x y = true) : lexLt y x = false := by
  cases e : lexLt y x with
  | false => rfl
  | true => have := lex_trans h e; rw [lex_irrefl] at this; cases this
/-- y is no greater than x -/
def Ge (x y : El) : Prop := lexLt x y = false
theorem Ge.refl (x : El) : Ge x x := lex_irrefl x
theorem Ge.of_lt {x y : El} (h : lexLt y x = true) : Ge x y := lex_asymm h
theorem Ge.trans {x y z : El} (h : Ge x y) (h' : Ge y z) : Ge x z := by
  unfold Ge at *
  cases e : lexLt x z with
  | false => rfl
  | true =>
    cases e2 : lexLt z y with
    | true => rw [lex_trans e e2] at h; cases h
    | false =>
      have := lex_total h' e2
      subst this
      rw [h] at e; cases e

def g (l : List El) (i : Nat) : El := l.getD i []
theorem g_set {l : List El} {i j : Nat} {y : El} (hi : i < l.length) : g (l.set i y) j = if j = i then y else g l j := by
  unfold g
  rw [List.getD_eq_getElem?_getD, List.getD_eq_getElem?_getD, List.getElem?_set]
  by_cases h : i = j
  · subst h; simp [hi]
  · simp [h, Ne.symm h]
theorem g_of {l : List El} {i : Nat} {y : El} (h : l[i]? = some y) : g l i = y := getD_of h
theorem g_mem {l : List El} {i : Nat} (h : i < l.length) : g l i ∈ l := by
  unfold g; rw [List.getD_eq_getElem?_getD, List.getElem?_eq_getElem h]; exact List.getElem_mem h

/-- from place s on, none is greater than the one over it -/
def HF (l : List El) (s : Nat) : Prop := ∀ i, i < l.length → 1 ≤ i → s ≤ (i - 1) / 2 → Ge (g l ((i - 1) / 2)) (g l i)

inductive Sub (s : Nat) : Nat → Prop
  | root : Sub s s
  | left {q : Nat} : Sub s q → Sub s (2 * q + 1)
  | right {q : Nat} : Sub s q → Sub s (2 * q + 2)
theorem Sub.le {s p : Nat} (h : Sub s p) : s ≤ p := by
  induction h with
  | root => exact Nat.le_refl _
  | left _ ih => omega
  | right _ ih => omega
theorem Sub.up {s p : Nat} (h : Sub s p) (hn : p ≠ s) : Sub s ((p - 1) / 2) ∧ s ≤ (p - 1) / 2 ∧ 1 ≤ p := by
  cases h with
  | root => exact absurd rfl hn
  | left q => rename_i r; rw [show (2 * r + 1 - 1) / 2 = r from by omega]; exact ⟨q, q.le, by omega⟩
  | right q => rename_i r; rw [show (2 * r + 2 - 1) / 2 = r from by omega]; exact ⟨q, q.le, by omega⟩
theorem Sub.zero : ∀ p, Sub 0 p := by
  intro p
  induction p using Nat.strongRecOn with
  | ind p ih =>
    by_cases h : p = 0
    · subst h; exact .root
    · by_cases e : p % 2 = 1
      · have := Sub.left (ih (p / 2) (by omega))
        rwa [show 2 * (p / 2) + 1 = p from by omega] at this
      · have := Sub.right (ih (p / 2 - 1) (by omega))
        rwa [show 2 * (p / 2 - 1) + 2 = p from by omega] at this

theorem count_set' {l : List El} {i : Nat} (h : i < l.length) (y z : El) : (l.set i y).count z + (if g l i = z then 1 else 0) = l.count z + (if y = z then 1 else 0) := by
  have e := List.count_set (a := y) (b := z) (l := l) (i := i) h
  rw [e]
  have hg : l[i] = g l i := by unfold g; rw [List.getD_eq_getElem?_getD, List.getElem?_eq_getElem h]; rfl
  simp only [hg, beq_iff_eq]
  by_cases q : g l i = z
  · have : 0 < l.count z := List.count_pos_iff.mpr (q ▸ g_mem h)
    simp [q]; split <;> omega
  · simp [q]

/-- the hole goes from p to c -/
theorem perm_move {l : List El} {p c : Nat} (x : El) (hp : p < l.length) (hc : c < l.length) (hn : p ≠ c) : ((l.set p (g l c)).set c x).Perm (l.set p x) := by
  rw [List.perm_iff_count]
  intro z
  have e1 := count_set' (l := l.set p (g l c)) (i := c) (by simpa using hc) x z
  have e2 := count_set' (l := l) (i := p) hp (g l c) z
  have e3 := count_set' (l := l) (i := p) hp x z
  rw [g_set hp, if_neg (Ne.symm hn)] at e1
  omega

structure Up (l : List El) (s p : Nat) (x : El) : Prop where
  sub : Sub s p
  lt : p < l.length
  pairs : ∀ i, i < l.length → 1 ≤ i → s ≤ (i - 1) / 2 → i ≠ p → (i - 1) / 2 ≠ p → Ge (g l ((i - 1) / 2)) (g l i)
  kids : ∀ c, c < l.length → 1 ≤ c → (c - 1) / 2 = p → Ge x (g l c)
  grand : ∀ c, c < l.length → 1 ≤ c → (c - 1) / 2 = p → p ≠ s → Ge (g l ((p - 1) / 2)) (g l c)

theorem Up.fin {l : List El} {s p : Nat} {x : El} (u : Up l s p x) (h : p ≠ s → Ge (g l ((p - 1) / 2)) x) : HF (l.set p x) s := by
  intro i hi h1 hs
  rw [List.length_set] at hi
  rw [g_set u.lt, g_set u.lt]
  by_cases e1 : i = p
  · subst e1
    rw [if_pos rfl, if_neg (by omega)]
    refine h fun e => ?_
    subst e
    omega
  · rw [if_neg e1]
    by_cases e2 : (i - 1) / 2 = p
    · rw [if_pos e2]; exact u.kids i hi h1 e2
    · rw [if_neg e2]; exact u.pairs i hi h1 hs e1 e2

theorem Up.step {l : List El} {s p : Nat} {x : El} (u : Up l s p x) (hn : p ≠ s) (hl : lexLt (g l ((p - 1) / 2)) x = true) : Up (l.set p (g l ((p - 1) / 2))) s ((p - 1) / 2) x := by
  obtain ⟨us, hs, h1⟩ := u.sub.up hn
  have hlt := u.lt
  have px : Ge x (g l ((p - 1) / 2)) := Ge.of_lt hl
  refine ⟨us, by rw [List.length_set]; omega, fun i hi hi1 hsi e1 e2 => ?_, fun c hc hc1 ec => ?_, fun c hc hc1 ec hns => ?_⟩
  · rw [List.length_set] at hi
    have e3 : i ≠ p := fun q => by subst q; exact e2 rfl
    rw [g_set u.lt, g_set u.lt, if_neg e3]
    by_cases e4 : (i - 1) / 2 = p
    · rw [if_pos e4]; exact u.grand i hi hi1 e4 hn
    · rw [if_neg e4]; exact u.pairs i hi hi1 hsi e3 e4
  · rw [List.length_set] at hc
    rw [g_set u.lt]
    by_cases e3 : c = p
    · rw [if_pos e3]; exact px
    · rw [if_neg e3]
      have := u.pairs c hc hc1 (by rw [ec]; exact hs) e3 (by rw [ec]; omega)
      rw [ec] at this
      exact px.trans this
  · rw [List.length_set] at hc
    obtain ⟨_, hs2, h2⟩ := us.up hns
    have pg := u.pairs ((p - 1) / 2) (by omega) h2 hs2 (by omega) (by omega)
    rw [g_set u.lt, g_set u.lt, if_neg (by omega)]
    by_cases e3 : c = p
    · rw [if_pos e3]; exact pg
    · rw [if_neg e3]
      have := u.pairs c hc hc1 (by rw [ec]; exact hs) e3 (by rw [ec]; omega)
      rw [ec] at this
      exact pg.trans this

theorem sd_spec {x : El} {s : Nat} : ∀ (p : Nat) (l : List El), Up l s p x → HF (sd x s p l) s ∧ (sd x s p l).Perm (l.set p x) := by
  intro p
  induction p using Nat.strongRecOn with
  | ind p ih =>
    intro l u
    by_cases h : s < p
    · have hlt := u.lt
      have hpar : (p - 1) / 2 < l.length := by omega
      have hy : l[(p - 1) / 2]? = some (g l ((p - 1) / 2)) := by unfold g; rw [List.getD_eq_getElem?_getD, List.getElem?_eq_getElem hpar]; rfl
      cases hl : lexLt (g l ((p - 1) / 2)) x with
      | true =>
        rw [sd_up h hy hl]
        obtain ⟨a, b⟩ := ih ((p - 1) / 2) (by omega) _ (u.step (by omega) hl)
        exact ⟨a, b.trans (perm_move x hlt hpar (by omega))⟩
      | false =>
        rw [sd_end h hy hl]
        exact ⟨u.fin fun _ => hl, .refl _⟩
    · rw [sd_stop h]
      refine ⟨u.fin fun hn => ?_, .refl _⟩
      have := u.sub.le
      omega

structure Dn (l : List El) (s p : Nat) : Prop where
  sub : Sub s p
  lt : p < l.length
  pairs : ∀ i, i < l.length → 1 ≤ i → s ≤ (i - 1) / 2 → i ≠ p → (i - 1) / 2 ≠ p → Ge (g l ((i - 1) / 2)) (g l i)
  grand : ∀ c, c < l.length → 1 ≤ c → (c - 1) / 2 = p → p ≠ s → Ge (g l ((p - 1) / 2)) (g l c)

theorem suC_par {p : Nat} {l : List El} : (suC p l - 1) / 2 = p ∧ (suC p l = 2 * p + 1 ∨ suC p l = 2 * p + 2) := by
  unfold suC; split <;> omega
theorem suC_max {p : Nat} {l : List El} (h : 2 * p + 1 < l.length) : ∀ c, c < l.length → 1 ≤ c → (c - 1) / 2 = p → Ge (g l (suC p l)) (g l c) := by
  intro c hc h1 e
  have ec : c = 2 * p + 1 ∨ c = 2 * p + 2 := by omega
  unfold suC
  split
  · rename_i q
    rcases ec with rfl | rfl
    · exact q.2
    · exact Ge.refl _
  · rename_i q
    rcases ec with rfl | rfl
    · exact Ge.refl _
    · unfold Ge
      cases e2 : lexLt (g l (2 * p + 1)) (g l (2 * p + 2)) with
      | false => rfl
      | true => exact absurd ⟨hc, lex_asymm e2⟩ q

theorem Dn.step {l : List El} {s p : Nat} (u : Dn l s p) (h : 2 * p + 1 < l.length) : Dn (l.set p (g l (suC p l))) s (suC p l) := by
  have hc := suC_lt h
  obtain ⟨e1, e2⟩ := suC_par (p := p) (l := l)
  have hmax := suC_max h
  have hsp := u.sub.le
  have hpl := u.lt
  refine ⟨?_, by rw [List.length_set]; exact hc.1, fun i hi hi1 hsi n1 n2 => ?_, fun c hcl hc1 ec hns => ?_⟩
  · rcases e2 with e | e
    · rw [e]; exact .left u.sub
    · rw [e]; exact .right u.sub
  · rw [List.length_set] at hi
    rw [g_set u.lt, g_set u.lt]
    by_cases e3 : i = p
    · rw [if_pos e3, if_neg (by omega)]
      subst e3
      exact u.grand (suC i l) hc.1 (by omega) e1 (by omega)
    · rw [if_neg e3]
      by_cases e4 : (i - 1) / 2 = p
      · rw [if_pos e4]; exact hmax i hi hi1 e4
      · rw [if_neg e4]; exact u.pairs i hi hi1 hsi e3 e4
  · rw [List.length_set] at hcl
    rw [g_set u.lt, g_set u.lt, e1, if_pos rfl, if_neg (by omega)]
    have := u.pairs c hcl hc1 (by omega) (by omega) (by omega)
    rw [ec] at this
    exact this

theorem su_spec {x : El} {s : Nat} : ∀ (k p : Nat) (l : List El), l.length - p = k → Dn l s p → Dn (su x p l).1 s (su x p l).2 ∧ ¬ 2 * (su x p l).2 + 1 < (su x p l).1.length ∧ ((su x p l).1.set (su x p l).2 x).Perm (l.set p x) := by
  intro k
  induction k using Nat.strongRecOn with
  | ind k ih =>
    intro p l hk u
    by_cases h : 2 * p + 1 < l.length
    · have hc := suC_lt h
      rw [su_step h]
      obtain ⟨a, b, c⟩ := ih (l.length - suC p l) (by omega) (suC p l) (l.set p (l.getD (suC p l) [])) (by simp) (u.step h)
      exact ⟨a, b, c.trans (perm_move x u.lt hc.1 (by omega))⟩
    · rw [su_stop h]; exact ⟨u, h, .refl _⟩

/-- a sift-up from s makes a heap from s on of a heap behind s -/
theorem sup_spec {x : El} {s : Nat} {l : List El} (hs : l[s]? = some x) (h : HF l (s + 1)) : HF (sup x s l) s ∧ (sup x s l).Perm l := by
  have hlt := get_lt hs
  have d : Dn l s s := ⟨.root, hlt, fun i hi h1 hsi n1 n2 => h i hi h1 (by omega), fun c _ _ _ n => absurd rfl n⟩
  obtain ⟨u, hleaf, pm⟩ := su_spec (x := x) _ s l rfl d
  have ul : Up ((su x s l).1.set (su x s l).2 x) s (su x s l).2 x := by
    refine ⟨u.sub, by rw [List.length_set]; exact u.lt, fun i hi h1 hsi n1 n2 => ?_, fun c hc h1 e => ?_, fun c hc h1 e => ?_⟩
    · rw [List.length_set] at hi
      rw [g_set u.lt, g_set u.lt, if_neg n1, if_neg n2]
      exact u.pairs i hi h1 hsi n1 n2
    · rw [List.length_set] at hc; omega
    · rw [List.length_set] at hc; omega
  obtain ⟨a, b⟩ := sd_spec _ _ ul
  refine ⟨a, b.trans ?_⟩
  rw [List.set_set]
  refine pm.trans ?_
  rw [set_same hs]
where
  set_same {l : List El} {s : Nat} {x : El} (h : l[s]? = some x) : l.set s x = l := by
    apply List.ext_getElem?
    intro i
    rw [List.getElem?_set]
    split
    · rename_i e; subst e; rw [h]; simp [get_lt h]
    · rfl

theorem HF.top {l : List El} (h : HF l 0) : ∀ i, i < l.length → Ge (g l 0) (g l i) := by
  intro i
  induction i using Nat.strongRecOn with
  | ind i ih =>
    intro hi
    by_cases e : i = 0
    · subst e; exact Ge.refl _
    · exact (ih ((i - 1) / 2) (by omega) (by omega)).trans (h i hi (by omega) (Nat.zero_le _))
theorem HF.top_mem {l : List El} (h : HF l 0) {x : El} (hx : x ∈ l) : Ge (g l 0) x := by
  obtain ⟨i, hi, rfl⟩ := List.mem_iff_getElem.mp hx
  have := h.top i hi
  have e : g l i = l[i] := g_of (List.getElem?_eq_getElem hi)
  rw [e] at this
  exact this
/-- one more comes in at the end -/
theorem push_spec {x : El} {l : List El} (h : HF l 0) : HF (sd x 0 l.length (l ++ [x])) 0 ∧ (sd x 0 l.length (l ++ [x])).Perm (l ++ [x]) := by
  have ga : ∀ i, i < l.length → g (l ++ [x]) i = g l i := fun i hi => by
    unfold g; rw [List.getD_eq_getElem?_getD, List.getD_eq_getElem?_getD, List.getElem?_append_left hi]
  have u : Up (l ++ [x]) 0 l.length x := by
    refine ⟨.zero _, by simp, fun i hi h1 hs n1 n2 => ?_, fun c hc h1 e => ?_, fun c hc h1 e => ?_⟩
    · simp at hi
      rw [ga _ (by omega), ga _ (by omega)]
      exact h i (by omega) h1 (Nat.zero_le _)
    · simp at hc; omega
    · simp at hc; omega
  obtain ⟨a, b⟩ := sd_spec _ _ u
  refine ⟨a, b.trans ?_⟩
  rw [sup_spec.set_same (by simp)]
theorem pop_spec {l : List El} {y x : El} (h : HF (l ++ [y]) 0) (hx : l[0]? = some x) : HF (sup y 0 (l.set 0 y)) 0 ∧ (x :: sup y 0 (l.set 0 y)).Perm (l ++ [y]) := by
  have h0 := get_lt hx
  have ga : ∀ i, i < l.length → g (l ++ [y]) i = g l i := fun i hi => by
    unfold g; rw [List.getD_eq_getElem?_getD, List.getD_eq_getElem?_getD, List.getElem?_append_left hi]
  obtain ⟨a, b⟩ := sup_spec (x := y) (s := 0) (l := l.set 0 y) (by rw [List.getElem?_set_self h0]) (by
    intro i hi h1 hs
    rw [List.length_set] at hi
    rw [g_set h0, g_set h0, if_neg (by omega), if_neg (by omega)]
    have := h i (by simp; omega) h1 (Nat.zero_le _)
    rw [ga _ (by omega), ga _ hi] at this
    exact this)
  refine ⟨a, (List.Perm.cons x b).trans ?_⟩
  cases l with
  | nil => simp at hx
  | cons z r =>
    simp at hx
    subst hx
    simp only [List.set_cons_zero, List.cons_append]
    exact List.Perm.cons _ (List.perm_append_singleton y r).symm

end Mine
end
section
open PySem PySem.W PyProof.Rows PySem.Calls
namespace Mine

theorem ForL_inv {X : Cx} {tg : Expr} {body : List Stmt} {stay : St → Prop} {Q : Fl → St → Prop} {items : List Val} (I : Nat → St → Prop)
    (turn : ∀ i σ V, items[i]? = some V → I i σ → AG X tg V σ (fun σ1 => AS X body σ1 (fun fl σ2 => (fl = .next ∨ fl = .cont) ∧ stay σ2 ∧ I (i + 1) σ2)))
    (fin : ∀ σ, I items.length σ → Q .next σ) {σ : St} (h : I 0 σ) : ForL X tg body stay Q items σ := by
  have go : ∀ (r : List Val) (i : Nat) (σ : St), items.drop i = r → i ≤ items.length → I i σ → ForL X tg body stay Q r σ := by
    intro r
    induction r with
    | nil =>
      intro i σ e hi hI
      have : i = items.length := by
        have := congrArg List.length e
        simp at this; omega
      subst this
      exact fin σ hI
    | cons V r ih =>
      intro i σ e hi hI
      have hlt : i < items.length := by
        have := congrArg List.length e
        simp at this; omega
      rw [List.drop_eq_getElem_cons hlt] at e
      injection e with e1 e2
      intro s v R rv
      refine (turn i σ V (by rw [List.getElem?_eq_getElem hlt, e1]) hI s v R rv).mono ?_
      intro _ σ1 h1
      refine T.mono h1 ?_
      rintro fl σ2 ⟨hf, hs, hI2⟩
      rcases hf with rfl | rfl
      · exact ⟨hs, ih (i + 1) σ2 e2 hlt hI2⟩
      · exact ⟨hs, ih (i + 1) σ2 e2 hlt hI2⟩
  exact go items 0 σ rfl (Nat.zero_le _) h

theorem SeqOf.put {σ : St} {V : Val} {vs : List Val} {D : Addr} {b : Box} (h : SeqOf σ V vs) (hD : σ.mem D = none) : SeqOf (σ.put D b) V vs := by
  rcases h with h | ⟨a, h, e⟩
  · exact .inl h
  · exact .inr ⟨a, h, by rw [St.put_mem, if_neg (fun q => by rw [q, hD] at e; cases e)]; exact e⟩
theorem SeqOf.of_mem {σ σ' : St} {V : Val} {vs : List Val} (h : SeqOf σ V vs) (e : ∀ a bx, σ.mem a = some bx → σ'.mem a = some bx) : SeqOf σ' V vs := by
  rcases h with h | ⟨a, h, q⟩
  · exact .inl h
  · exact .inr ⟨a, h, e a _ q⟩

theorem clip_nat (n k : Nat) : clipAt n (k : Int) = min k n := by
  unfold clipAt
  rw [if_neg (by omega)]
  omega
theorem pick_lh (vs : List Val) (lo hi : Nat) : pickV vs (some (lo : Int)) (some (hi : Int)) none = (vs.drop lo).take (hi - lo) := by
  rw [pickV_plain]
  simp only [Option.elim, clip_nat]
  by_cases h : lo ≤ vs.length
  · rw [Nat.min_eq_left h]
    by_cases h2 : hi ≤ vs.length
    · rw [Nat.min_eq_left h2]
    · rw [Nat.min_eq_right (by omega), List.take_of_length_le (by simp), List.take_of_length_le (by simp; omega)]
  · have h' : vs.length ≤ lo := by omega
    rw [Nat.min_eq_right h', List.drop_length, List.drop_eq_nil_of_le h']
    simp
theorem pick_l (vs : List Val) (lo : Nat) : pickV vs (some (lo : Int)) none none = vs.drop lo := by
  rw [pickV_plain]
  simp only [Option.elim, clip_nat]
  by_cases h : lo ≤ vs.length
  · rw [Nat.min_eq_left h, List.take_of_length_le (by simp)]
  · have h' : vs.length ≤ lo := by omega
    rw [Nat.min_eq_right h', List.drop_length, List.drop_eq_nil_of_le h']
    simp
theorem pick_h (vs : List Val) (hi : Nat) : pickV vs none (some (hi : Int)) none = vs.take hi := by
  rw [pickV_plain]
  simp only [Option.elim, clip_nat, List.drop_zero, Nat.sub_zero]
  by_cases h : hi ≤ vs.length
  · rw [Nat.min_eq_left h]
  · rw [Nat.min_eq_right (by omega), List.take_of_length_le (Nat.le_refl _), List.take_of_length_le (by omega)]

def Val.toInt : Val → Int
  | .int i => i
  | _ => 0
theorem pick_ints (ns : List Int) (lo hi st : Option Int) : pickV (ns.map Val.int) lo hi st = ((pickV (ns.map Val.int) lo hi st).map Val.toInt).map Val.int := by
  unfold pickV
  generalize sliceRange _ _ _ = idx
  induction idx with
  | nil => rfl
  | cons i r ih =>
    rw [List.filterMap_cons, List.getElem?_map]
    cases e : ns[i]? with
    | none => simpa using ih
    | some k => simp only [Option.map_some, List.map_cons, Val.toInt]; rw [← ih]

/-- while a list is being built and everything else stays -/
theorem sub_mem {σ σ' : St} {D : Addr} {b : Box} (hD : σ.mem D = none) (e : σ'.mem = (σ.put D b).mem) : ∀ a bx, σ.mem a = some bx → σ'.mem a = some bx := fun a bx h => by
  rw [e, St.put_mem, if_neg (fun q => by rw [q, hD] at h; cases h)]; exact h

theorem CompOk_fn {B : Base} {A : Around} {L : Addr} {qual : Str} {fa : Addr} {code : Value} {sc : Scope} {X : Cx} (hX : (⟨B, A, fnFm L qual fa code sc, sc⟩ : Cx) = X) {scope : Scope} (hk : scope.kind = .function) (hn : (scope.names.map (·.1)).Nodup)
    (hf : (scope.names.all fun x => !(x.2 == .free) || sc.names.lookup x.1 == some .cell) = true) : CompOk X scope := by
  subst hX
  refine ⟨hk, hn, fun x hx e => ?_⟩
  have := List.all_eq_true.mp hf x hx
  rw [e] at this
  have q : sc.names.lookup x.1 = some .cell := by simpa using this
  exact ⟨cellsFrom_some' q, .inl q⟩

/-! the table of the most -/
def mostAt (before now : List Int) (x : Int) (c : Nat) : Int := maxL ((now.drop c).take 1 ++ ((before.drop (c - 1)).take (c - (c - 1))).map (· + x))
def mostT (before now : List Int) (x : Int) : List Int := (List.range (max now.length (before.length + 1))).map (mostAt before now x)
def mostF (row : List Int) : List Int × List Int := row.foldl (fun st x => (st.2, mostT st.1 st.2 x)) ([0], [0])
end Mine
end
section
open PySem PySem.W PyProof.Rows PySem.Calls
set_option maxRecDepth 100000
namespace Mine
theorem pureInts (ns : List Int) : pureV 8 (.lst (ns.map Val.int)) := pureV_lst.mpr fun v hv => by
  obtain ⟨i, _, rfl⟩ := List.mem_map.mp hv
  exact pureV_int i
theorem pureT' {n : Nat} (x : El) : pureV (n + 1) (tv x) := pureV_tup.mpr fun v hv => by
  obtain ⟨i, _, rfl⟩ := List.mem_map.mp hv
  exact pureV_int i
theorem pureT (x : El) : pureV 8 (tv x) := pureT' x
theorem pureTs (l : List El) : pureV 8 (.lst (l.map tv)) := pureV_lst.mpr fun v hv => by
  obtain ⟨i, _, rfl⟩ := List.mem_map.mp hv
  exact pureT' i
theorem pureNil : pureV 8 (.lst []) := pureV_lst.mpr (by simp)
section
variable {X : Cx} {σ : St} {pos : Pos} {n : Nat}
theorem AX_ifd {t : Expr} {b o : List Stmt} {Q : Fl → St → Prop} (c : Prop) [Decidable c] (h : AT X t σ (fun b σ' => σ' = σ ∧ b = decide c)) (h1 : c → AS X b σ Q) (h2 : ¬ c → AS X o σ Q) : AX X (.If t b o pos) σ Q :=
  AX_if (T.mono h fun b σ' ⟨e, eb⟩ => by
    subst e eb
    exact ⟨fun z => h1 (of_decide_eq_true z), fun z => h2 (of_decide_eq_false z)⟩)
theorem AE_ifd {t b o : Expr} {Q : Val → St → Prop} (c : Prop) [Decidable c] (V : Val) (h : AT X t σ (fun b σ' => σ' = σ ∧ b = decide c)) (h1 : c → AE X b σ (fun U σ' => σ' = σ ∧ U = V)) (h2 : ¬ c → AE X o σ (fun U σ' => σ' = σ ∧ U = V)) (hq : Q V σ) : AE X (.IfExp t b o pos) σ Q :=
  AE_ifexp (T.mono h fun b σ' ⟨e, eb⟩ => by
    subst e eb
    exact ⟨fun z => T.mono (h1 (of_decide_eq_true z)) fun U σ' ⟨a, b⟩ => by subst a b; exact hq, fun z => T.mono (h2 (of_decide_eq_false z)) fun U σ' ⟨a, b⟩ => by subst a b; exact hq⟩)
theorem AS_freeze1 {ss : List Stmt} {Q : Fl → St → Prop} {x : Str} {T : Addr} {vs : List Val} (hx : σ.loc x = some (.ref T)) (hT : σ.mem T = some (.list vs)) (h : AS X ss ((σ.drop T).set x (.lst vs)) Q) : AS X ss σ Q := by
  have hm : ∀ a bx, ((σ.drop T).set x (.lst vs)).mem a = some bx → σ.mem a = some bx := fun a bx e => by
    rw [St.set_mem, St.drop_mem] at e
    split at e
    · cases e
    · exact e
  refine AS_refine hm ?_ h
  intro s R y V' hy
  rw [St.set_loc] at hy
  by_cases q : y = x
  · rw [if_pos q] at hy
    cases hy
    refine ⟨.ref T, q ▸ hx, fun v rv => ?_⟩
    cases rv
    exact R.frozen hT
  · rw [if_neg q] at hy
    refine ⟨V', hy, fun v rv => rv.mono fun b o e m _ => ⟨e, ?_⟩⟩
    rw [St.set_mem, St.drop_mem]
    split
    · rfl
    · exact m
end
theorem drop_other {σ : St} {x : Str} {T a : Addr} {V : Val} {bx : Option Box} (h : a ≠ T) (e : σ.mem a = bx) : ((σ.drop T).set x V).mem a = bx := by
  rw [St.set_mem, St.drop_mem, if_neg h]; exact e
theorem pop_plain {H : List El} (hf : HF H 0) (hne : H ≠ []) : ∃ l y, H = l ++ [y] ∧ (l = [] → (y ∈ H ∧ (∀ z ∈ H, Ge y z) ∧ [y].Perm H ∧ HF [] 0)) ∧ ∀ x, l[0]? = some x → x ∈ H ∧ (∀ z ∈ H, Ge x z) ∧ (x :: sup y 0 (l.set 0 y)).Perm H ∧ HF (sup y 0 (l.set 0 y)) 0 := by
  refine ⟨H.dropLast, H.getLast hne, (List.dropLast_concat_getLast hne).symm, fun e => ?_, fun x hx => ?_⟩
  · have eH : H = [H.getLast hne] := by
      have := List.dropLast_concat_getLast hne
      rw [e] at this; simpa using this.symm
    refine ⟨List.getLast_mem hne, fun z hz => ?_, by rw [← eH], fun i hi => by simp at hi⟩
    rw [eH] at hz
    have : z = H.getLast hne := by simpa using hz
    rw [this]; exact Ge.refl _
  · have e := (List.dropLast_concat_getLast hne)
    have hf' := hf
    rw [← e] at hf'
    obtain ⟨a, b⟩ := pop_spec hf' hx
    rw [e] at b
    have h0 : g H 0 = x := by
      have : H[0]? = some x := by rw [← e, List.getElem?_append_left (get_lt hx)]; exact hx
      exact g_of this
    exact ⟨b.mem_iff.mp (.head _), fun z hz => h0 ▸ HF.top_mem hf hz, b, a⟩
end Mine
end
section
namespace Mine

def tot (l : List Nat) (f : Nat → Int) : Int := (l.map f).sum
theorem tot_nil (f : Nat → Int) : tot [] f = 0 := rfl
theorem tot_cons (x : Nat) (l : List Nat) (f : Nat → Int) : tot (x :: l) f = f x + tot l f := by simp [tot]
theorem tot_append (l r : List Nat) (f : Nat → Int) : tot (l ++ r) f = tot l f + tot r f := by simp [tot]
theorem tot_add (l : List Nat) (f h : Nat → Int) : tot l (fun i => f i + h i) = tot l f + tot l h := by
  induction l with
  | nil => rfl
  | cons x r ih => simp only [tot_cons, ih]; omega
theorem tot_congr {l : List Nat} {f h : Nat → Int} (e : ∀ i ∈ l, f i = h i) : tot l f = tot l h := by
  unfold tot; rw [List.map_congr_left e]
theorem tot_nonneg {l : List Nat} {f : Nat → Int} (e : ∀ i ∈ l, 0 ≤ f i) : 0 ≤ tot l f := by
  induction l with
  | nil => exact Int.le_refl _
  | cons x r ih => rw [tot_cons]; have := e x (.head _); have := ih fun i hi => e i (.tail _ hi); omega
theorem tot_zero {l : List Nat} {f : Nat → Int} (e : ∀ i ∈ l, f i = 0) : tot l f = 0 := by
  rw [tot_congr e]
  induction l with
  | nil => rfl
  | cons x r ih => rw [tot_cons, ih fun i hi => e i (.tail _ hi)]; rfl
theorem tot_perm {l r : List Nat} (p : l.Perm r) (f : Nat → Int) : tot l f = tot r f := by
  induction p with
  | nil => rfl
  | cons x _ ih => simp only [tot_cons, ih]
  | swap x y l => simp only [tot_cons]; omega
  | trans _ _ a b => exact a.trans b
theorem tot_filter (l : List Nat) (p : Nat → Bool) (f : Nat → Int) : tot (l.filter p) f = tot l fun i => if p i = true then f i else 0 := by
  induction l with
  | nil => rfl
  | cons x r ih =>
    rw [List.filter_cons, tot_cons]
    split
    · rw [tot_cons, ih]
    · rw [ih]; omega

/-! Stoer and Wagner -/
section
variable (w : Nat → Nat → Int)
def keyO (o : List Nat) (x : Nat) : Int := tot o fun i => w x i
def crS (S : Nat → Bool) (o : List Nat) (x : Nat) : Int := tot o fun i => if S i ≠ S x then w x i else 0
def cutS (S : Nat → Bool) (o : List Nat) : Int := tot o fun i => tot o fun j => if S i = true ∧ S j = false then w i j else 0

inductive Gr (n : Nat) : List Nat → Prop
  | one (v : Nat) : Gr n [v]
  | snoc {o : List Nat} {v : Nat} : Gr n o → (∀ x, x ∉ o → x < n → keyO w o x ≤ keyO w o v) → v ∉ o → v < n → Gr n (o ++ [v])
end

section
variable {w : Nat → Nat → Int} {n : Nat} (sym : ∀ i j, w i j = w j i) (pos : ∀ i j, 0 ≤ w i j)
include sym
theorem cutS_snoc (S : Nat → Bool) (o : List Nat) (v : Nat) : cutS w S (o ++ [v]) = cutS w S o + crS w S o v := by
  unfold cutS crS
  rw [tot_append, tot_cons, tot_nil]
  have e1 : (tot o fun i => tot (o ++ [v]) fun j => if S i = true ∧ S j = false then w i j else 0) = (tot o fun i => tot o fun j => if S i = true ∧ S j = false then w i j else 0) + tot o fun i => if S i = true ∧ S v = false then w i v else 0 := by
    rw [← tot_add]
    refine tot_congr fun i _ => ?_
    rw [tot_append, tot_cons, tot_nil]; omega
  rw [e1, tot_append, tot_cons, tot_nil]
  cases hv : S v with
  | true =>
    have z1 : (tot o fun i => if S i = true ∧ true = false then w i v else 0) = 0 := tot_zero fun i _ => by simp
    rw [z1]
    have z2 : (tot o fun j => if true = true ∧ S j = false then w v j else 0) = tot o fun i => if S i ≠ true then w v i else 0 := tot_congr fun i _ => by cases S i <;> simp
    rw [z2]; simp
  | false =>
    have z1 : (tot o fun i => if S i = true ∧ false = false then w i v else 0) = tot o fun i => if S i ≠ false then w v i else 0 := tot_congr fun i _ => by cases S i <;> simp [sym i v]
    have z2 : (tot o fun j => if false = true ∧ S j = false then w v j else 0) = 0 := tot_zero fun i _ => by simp
    rw [z1, z2]; simp
include pos
omit sym in
theorem crS_nonneg (S : Nat → Bool) (o : List Nat) (x : Nat) : 0 ≤ crS w S o x := tot_nonneg fun i _ => by
  split
  · exact pos _ _
  · exact Int.le_refl _
theorem sw_key (S : Nat → Bool) {o : List Nat} (h : Gr w n o) : ∀ x, x ∉ o → x < n → (∃ l, o.getLast? = some l ∧ S x ≠ S l) → keyO w o x ≤ cutS w S o + crS w S o x := by
  induction h with
  | one v =>
    rintro x hx hn ⟨l, hl, hs⟩
    simp at hl; subst hl
    have c0 : cutS w S [v] = 0 := by unfold cutS; simp [tot]
    rw [c0]
    unfold keyO crS
    simp only [tot_cons, tot_nil]
    rw [if_pos (Ne.symm hs)]; omega
  | @snoc o v h hmax hv hvn ih =>
    rintro x hx hn ⟨l, hl, hs⟩
    simp at hl; subst hl
    rw [cutS_snoc sym]
    have hxo : x ∉ o := fun q => hx (by simp [q])
    have e1 : keyO w (o ++ [v]) x = keyO w o x + w x v := by unfold keyO; rw [tot_append, tot_cons, tot_nil]; omega
    have e2 : crS w S (o ++ [v]) x = crS w S o x + w x v := by unfold crS; rw [tot_append, tot_cons, tot_nil, if_pos (Ne.symm hs)]; omega
    have c1 := crS_nonneg pos S o v
    have c2 := crS_nonneg pos S o x
    have hne : o ≠ [] := by cases h <;> simp
    obtain ⟨l, hl⟩ : ∃ l, o.getLast? = some l := ⟨_, List.getLast?_eq_some_getLast hne⟩
    rw [e1, e2]
    by_cases hsl : S x = S l
    · have := ih v hv hvn ⟨l, hl, fun q => hs (by rw [q, hsl])⟩
      have := hmax x hxo hn
      omega
    · have := ih x hxo hn ⟨l, hl, hsl⟩
      omega
/-- the cut of a phase is the least that parts its last two -/
theorem sw_cut (S : Nat → Bool) {o : List Nat} {t : Nat} (h : Gr w n o) (ht : t ∉ o) (hn : t < n) {a : Nat} (ha : o.getLast? = some a) (hS : S t ≠ S a) : keyO w o t ≤ cutS w S (o ++ [t]) := by
  rw [cutS_snoc sym]
  exact sw_key sym pos S h t ht hn ⟨a, ha, hS⟩
end

/-- what a parting cuts, counted by its two sides -/
theorem cutS_sides {w : Nat → Nat → Int} {o here there : List Nat} {n : Nat} (ho : o.Perm (List.range n)) (hh : here.Nodup) (hl : ∀ k ∈ here, k < n) (et : there = (List.range n).filter fun k => !here.contains k) :
    cutS w (fun k => here.contains k) o = tot here fun i => tot there fun j => w i j := by
  have p : here.Perm ((List.range n).filter fun k => here.contains k) := by
    rw [List.perm_ext_iff_of_nodup hh (List.nodup_range.filter _)]
    intro a
    simp only [List.mem_filter, List.mem_range, List.contains_iff_mem]
    exact ⟨fun h => ⟨hl a h, h⟩, fun h => h.2⟩
  rw [tot_perm p, tot_filter]
  unfold cutS
  rw [tot_perm ho]
  refine tot_congr fun i _ => ?_
  rw [tot_perm ho, et, tot_filter]
  by_cases hi : here.contains i = true
  · rw [if_pos hi]
    refine tot_congr fun j _ => ?_
    show (if here.contains i = true ∧ here.contains j = false then w i j else 0) = _
    rw [hi]
    cases here.contains j <;> rfl
  · rw [if_neg hi]
    exact tot_zero fun j _ => if_neg fun q => hi q.1

/-! the heap of the phase -/
theorem raise_spec {x old : El} {l : List El} {p : Nat} (h : HF l 0) (hp : l[p]? = some old) (hx : Ge x old) : HF (sd x 0 p (l.set p x)) 0 ∧ (sd x 0 p (l.set p x)).Perm (l.set p x) := by
  have hlt := get_lt hp
  have ho : g l p = old := g_of hp
  have u : Up (l.set p x) 0 p x := by
    refine ⟨.zero _, by simpa using hlt, fun i hi h1 hs n1 n2 => ?_, fun c hc h1 e => ?_, fun c hc h1 e hn => ?_⟩
    · rw [List.length_set] at hi
      rw [g_set hlt, g_set hlt, if_neg n1, if_neg n2]
      exact h i hi h1 hs
    · rw [List.length_set] at hc
      rw [g_set hlt, if_neg (by omega)]
      have := h c hc h1 (Nat.zero_le _)
      rw [e, ho] at this
      exact hx.trans this
    · rw [List.length_set] at hc
      rw [g_set hlt, g_set hlt, if_neg (by omega), if_neg (by omega)]
      have a1 := h c hc h1 (Nat.zero_le _)
      have a2 := h p hlt (by omega) (Nat.zero_le _)
      rw [e] at a1
      exact a2.trans a1
  obtain ⟨a, b⟩ := sd_spec _ _ u
  refine ⟨a, b.trans ?_⟩
  rw [List.set_set]

/-- an entry of a heap that holds one entry for each of some is written anew -/
theorem set_perm {H : List El} {rs : List Nat} {f f' : Nat → El} {p k : Nat} (hp : H.Perm (rs.map f)) (hn : rs.Nodup) (hk : k ∈ rs) (hH : H[p]? = some (f k)) (hf : ∀ j ∈ rs, j ≠ k → f' j = f j) : (H.set p (f' k)).Perm (rs.map f') := by
  obtain ⟨A, B, rfl⟩ := List.append_of_mem hk
  rw [List.nodup_append] at hn
  obtain ⟨n1, n2, n3⟩ := hn
  have eA : A.map f' = A.map f := List.map_congr_left fun j hj => hf j (by simp [hj]) (n3 j hj k (by simp))
  have eB : B.map f' = B.map f := List.map_congr_left fun j hj => hf j (by simp [hj]) fun q => (List.nodup_cons.mp n2).1 (q ▸ hj)
  rw [List.perm_iff_count] at hp ⊢
  intro z
  have c1 := count_set' (l := H) (i := p) (get_lt hH) (f' k) z
  have c2 := hp z
  rw [g_of hH] at c1
  rw [List.map_append, List.map_cons, List.count_append, List.count_cons] at c2 ⊢
  rw [eA, eB]
  simp only [beq_iff_eq] at c2 ⊢
  omega

structure Ph (w : Nat → Nat → Int) (n : Nat) (H : List El) (o : List Nat) : Prop where
  heap : HF H 0
  ent : H.Perm (((List.range n).filter fun k => !o.contains k).map fun k => [keyO w o k, (k : Int)])
  gr : Gr w n o
  nd : o.Nodup
  lt : ∀ k ∈ o, k < n

theorem rest_mem {n k : Nat} {o : List Nat} : k ∈ (List.range n).filter (fun k => !o.contains k) ↔ k < n ∧ k ∉ o := by
  simp
theorem Ph.top {w : Nat → Nat → Int} {n : Nat} {H : List El} {o : List Nat} (P : Ph w n H o) (h : H ≠ []) : ∃ v : Nat, H[0]? = some [keyO w o v, (v : Int)] ∧ v < n ∧ v ∉ o ∧ ∀ k, k < n → k ∉ o → keyO w o k ≤ keyO w o v := by
  have h0 : 0 < H.length := List.length_pos_iff.mpr h
  have e0 : H[0]? = some (g H 0) := by unfold g; rw [List.getD_eq_getElem?_getD, List.getElem?_eq_getElem h0]; rfl
  obtain ⟨v, hv, ev⟩ := List.mem_map.mp (P.ent.mem_iff.mp (g_mem h0))
  obtain ⟨v1, v2⟩ := rest_mem.mp hv
  refine ⟨v, by rw [e0, ← ev], v1, v2, fun k hk hk2 => ?_⟩
  have := P.heap.top_mem (P.ent.mem_iff.mpr (List.mem_map.mpr ⟨k, rest_mem.mpr ⟨hk, hk2⟩, rfl⟩))
  rw [← ev] at this
  unfold Ge at this
  simp only [lexLt] at this
  by_cases q : keyO w o v = keyO w o k
  · omega
  · rw [if_neg q] at this
    have := of_decide_eq_false this
    omega

/-- while the keys are raised -/
structure Mid (w : Nat → Nat → Int) (n : Nat) (H : List El) (o : List Nat) (v : Nat) (done : List Nat) : Prop where
  heap : HF H 0
  ent : H.Perm (((List.range n).filter fun k => !(o ++ [v]).contains k).map fun k => if k ∈ done then [keyO w (o ++ [v]) k, (k : Int)] else [keyO w o k, (k : Int)])

theorem Ph.pop {w : Nat → Nat → Int} {n : Nat} {l : List El} {y : El} {o : List Nat} (P : Ph w n (l ++ [y]) o) {v : Nat} (hv : (l ++ [y])[0]? = some [keyO w o v, (v : Int)]) (hvn : v < n) (hvo : v ∉ o) (H' : List El) (hH' : (l = [] ∧ H' = []) ∨ (∃ x, l[0]? = some x ∧ H' = sup y 0 (l.set 0 y))) : Mid w n H' o v [] := by
  have key : HF H' 0 ∧ (([keyO w o v, (v : Int)] : El) :: H').Perm (l ++ [y]) := by
    rcases hH' with ⟨rfl, rfl⟩ | ⟨x, hx, rfl⟩
    · simp at hv
      subst hv
      exact ⟨fun i hi => by simp at hi, .refl _⟩
    · have hx' := hx
      rw [← List.getElem?_append_left (l₂ := [y]) (get_lt hx), hv] at hx'
      cases hx'
      exact pop_spec P.heap hx
  obtain ⟨s1, s2⟩ := key
  refine ⟨s1, ?_⟩
  have hmem : v ∈ (List.range n).filter (fun k => !o.contains k) := rest_mem.mpr ⟨hvn, hvo⟩
  have nd : ((List.range n).filter (fun k => !o.contains k)).Nodup := List.nodup_range.filter _
  have p2 := s2.trans P.ent
  have er : (List.range n).filter (fun k => !(o ++ [v]).contains k) = ((List.range n).filter (fun k => !o.contains k)).erase v := by
    rw [nd.erase_eq_filter, List.filter_filter]
    apply List.filter_congr
    intro k _
    by_cases q : k = v <;> by_cases z : k ∈ o <;> simp [q, z]
  rw [er]
  have p3 := (List.perm_cons_erase hmem).map fun k => ([keyO w o k, (k : Int)] : El)
  have p4 := p2.trans p3
  rw [List.map_cons, List.perm_cons] at p4
  have e2 : (((List.range n).filter (fun k => !o.contains k)).erase v).map (fun k => if k ∈ ([] : List Nat) then ([keyO w (o ++ [v]) k, (k : Int)] : El) else [keyO w o k, (k : Int)]) = (((List.range n).filter (fun k => !o.contains k)).erase v).map fun k => ([keyO w o k, (k : Int)] : El) := by
    apply List.map_congr_left; intro k _; simp
  rw [e2]
  exact p4

theorem Mid.raise {w : Nat → Nat → Int} (pos : ∀ i j, 0 ≤ w i j) {n : Nat} {H : List El} {o done : List Nat} {v k : Nat} (M : Mid w n H o v done) (hk : k < n) (hko : k ∉ o) (hkv : k ≠ v) (hkd : k ∉ done) :
    (∃ p : Nat, H[p]? = some [keyO w o k, (k : Int)]) ∧ ∀ (p : Nat) e, H[p]? = some e → e.getD 1 0 = (k : Int) → e = [keyO w o k, (k : Int)] ∧ Mid w n (sd [keyO w o k + w k v, (k : Int)] 0 p (H.set p [keyO w o k + w k v, (k : Int)])) o v (k :: done) := by
  have hmem : k ∈ (List.range n).filter (fun k => !(o ++ [v]).contains k) := rest_mem.mpr ⟨hk, by simp [hko, hkv]⟩
  have ek : keyO w (o ++ [v]) k = keyO w o k + w k v := by unfold keyO; rw [tot_append, tot_cons, tot_nil]; omega
  refine ⟨?_, fun p e he hek => ?_⟩
  · have : [keyO w o k, (k : Int)] ∈ H := M.ent.mem_iff.mpr (List.mem_map.mpr ⟨k, hmem, by rw [if_neg hkd]⟩)
    obtain ⟨p, hp, e⟩ := List.mem_iff_getElem.mp this
    exact ⟨p, by rw [List.getElem?_eq_getElem hp, e]⟩
  · obtain ⟨j, hj, ej⟩ := List.mem_map.mp (M.ent.mem_iff.mp (List.mem_of_getElem? he))
    have hjk : j = k := by
      rw [← ej] at hek
      split at hek <;> (simp at hek; omega)
    subst hjk
    rw [if_neg hkd] at ej
    refine ⟨ej.symm, ?_⟩
    subst ej
    obtain ⟨r1, r2⟩ := raise_spec (x := [keyO w o j + w j v, (j : Int)]) M.heap he (by
      unfold Ge
      simp only [lexLt]
      have := pos j v
      by_cases q : keyO w o j + w j v = keyO w o j
      · rw [if_pos q]; simp
      · rw [if_neg q, decide_eq_false_iff_not]; omega)
    refine ⟨r1, r2.trans ?_⟩
    have := set_perm (f' := fun k => if k ∈ j :: done then ([keyO w (o ++ [v]) k, (k : Int)] : El) else [keyO w o k, (k : Int)]) (p := p) M.ent (List.nodup_range.filter _) hmem (by simpa [hkd] using he) (fun i _ hi => by simp [hi])
    simpa [ek] using this

theorem Mid.fin {w : Nat → Nat → Int} {n : Nat} {H : List El} {o done : List Nat} {v : Nat} (M : Mid w n H o v done) (hd : ∀ k, k < n → k ∉ o → k ≠ v → k ∈ done) (gr : Gr w n o) (nd : o.Nodup) (lt : ∀ k ∈ o, k < n) (hv : v ∉ o) (hvn : v < n)
    (hmax : ∀ k, k < n → k ∉ o → keyO w o k ≤ keyO w o v) : Ph w n H (o ++ [v]) := by
  refine ⟨M.heap, ?_, .snoc gr (fun x hx hn => hmax x hn hx) hv hvn, ?_, ?_⟩
  · have e : (((List.range n).filter fun k => !(o ++ [v]).contains k).map fun k => if k ∈ done then ([keyO w (o ++ [v]) k, (k : Int)] : El) else [keyO w o k, (k : Int)]) = ((List.range n).filter fun k => !(o ++ [v]).contains k).map fun k => [keyO w (o ++ [v]) k, (k : Int)] := by
      apply List.map_congr_left
      intro k hk
      obtain ⟨h1, h2⟩ := rest_mem.mp hk
      simp at h2
      rw [if_pos (hd k h1 h2.1 h2.2)]
    rw [← e]; exact M.ent
  · rw [List.nodup_append]
    exact ⟨nd, by simp, fun a ha b hb => by rw [List.mem_singleton] at hb; subst hb; exact fun q => hv (q ▸ ha)⟩
  · intro k hk
    rcases List.mem_append.mp hk with h | h
    · exact lt k h
    · rw [List.mem_singleton] at h; subst h; exact hvn
theorem Ph.done {w : Nat → Nat → Int} {n : Nat} {o : List Nat} (P : Ph w n [] o) : o.Perm (List.range n) := by
  have h : (List.range n).filter (fun k => !o.contains k) = [] := by simpa using P.ent
  rw [List.perm_ext_iff_of_nodup P.nd List.nodup_range]
  intro a
  rw [List.mem_range]
  refine ⟨P.lt a, fun ha => ?_⟩
  by_cases q : a ∈ o
  · exact q
  · have : a ∈ (List.range n).filter (fun k => !o.contains k) := rest_mem.mpr ⟨ha, q⟩
    rw [h] at this; cases this
end Mine
end
section
namespace Mine

section
variable (h c : Nat → Int)
/-- what an order costs from a clock on -/
def Fc (t : Int) : List Nat → Int
  | [] => 0
  | k :: r => c k * (t + h k) + Fc (t + h k) r
end
section
variable {h c : Nat → Int}
theorem Fc_append (t : Int) (a b : List Nat) : Fc h c t (a ++ b) = Fc h c t a + Fc h c (t + tot a h) b := by
  induction a generalizing t with
  | nil => simp [Fc, tot]
  | cons k r ih =>
    simp only [List.cons_append, Fc, ih, tot_cons]
    rw [show t + h k + tot r h = t + (h k + tot r h) from by omega]; omega
theorem Fc_shift (t d : Int) (a : List Nat) : Fc h c (t + d) a = Fc h c t a + d * tot a c := by
  induction a generalizing t with
  | nil => simp [Fc, tot]
  | cons k r ih =>
    simp only [Fc, tot_cons]
    rw [show t + d + h k = (t + h k) + d from by omega, ih, Int.mul_add (c k) (t + h k) d, Int.mul_add d, Int.mul_comm d (c k)]; omega
theorem Fc_swap (t : Int) (b k r : List Nat) (hr : tot b c * tot k h ≤ tot k c * tot b h) : Fc h c t (k ++ (b ++ r)) ≤ Fc h c t (b ++ (k ++ r)) := by
  rw [Fc_append, Fc_append, Fc_append t b, Fc_append _ k, Fc_shift t (tot k h) b, Fc_shift t (tot b h) k]
  rw [show t + tot k h + tot b h = t + tot b h + tot k h from by omega, Int.mul_comm (tot k h), Int.mul_comm (tot b h)]
  omega
end

section
variable (par : Nat → Option Nat)
def OrdIn : List Nat → List Nat → Prop
  | _, [] => True
  | A, j :: q => (∀ i, par j = some i → i ∈ A) ∧ OrdIn (A ++ [j]) q
end
section
variable {par : Nat → Option Nat}
theorem OrdIn.mono : ∀ {s A A' : List Nat}, (∀ i ∈ A, i ∈ A') → OrdIn par A s → OrdIn par A' s
  | [], _, _, _, _ => trivial
  | j :: q, A, A', hs, o => ⟨fun i hi => hs i (o.1 i hi), OrdIn.mono (s := q) (fun i hi => by
      rcases List.mem_append.mp hi with z | z
      · exact List.mem_append.mpr (.inl (hs i z))
      · exact List.mem_append.mpr (.inr z)) o.2⟩
theorem OrdIn.append : ∀ {s r A : List Nat}, OrdIn par A (s ++ r) ↔ OrdIn par A s ∧ OrdIn par (A ++ s) r
  | [], r, A => by simp [OrdIn]
  | j :: q, r, A => by
    simp only [List.cons_append, OrdIn]
    rw [OrdIn.append (s := q), List.append_assoc, List.singleton_append]
    exact ⟨fun z => ⟨⟨z.1, z.2.1⟩, z.2.2⟩, fun z => ⟨z.1.1, z.1.2, z.2⟩⟩
/-- a part is moved ahead of another one -/
theorem OrdIn.move {A Y K Z : List Nat} (o : OrdIn par [] (A ++ (Y ++ (K ++ Z)))) (hk : OrdIn par A K) : OrdIn par [] (A ++ (K ++ (Y ++ Z))) := by
  rw [OrdIn.append, OrdIn.append, OrdIn.append] at o ⊢
  obtain ⟨o1, o2, o3, o4⟩ := o
  refine ⟨o1, hk.mono (by simp), o2.mono (by intro i hi; simp at hi ⊢; exact .inl hi), o4.mono (by intro i hi; simp at hi ⊢; rcases hi with z | z | z <;> simp [z])⟩
end

section
variable {h c : Nat → Int} {par : Nat → Option Nat}
structure Hn (h c : Nat → Int) (par : Nat → Option Nat) (bl : Nat → List Nat) (course : List Nat) : Prop where
  perm : (course ++ (List.range 6).flatMap bl).Perm (List.range 6)
  first : ∀ k, bl k ≠ [] → k < 6 ∧ ∃ r, bl k = k :: r ∧ OrdIn par [k] r
  oc : OrdIn par [] course
  dom : ∀ s : List Nat, s.Perm (List.range 6) → OrdIn par [] s → ∃ π : List Nat, π.Nodup ∧ (∀ b, b ∈ π ↔ bl b ≠ []) ∧ OrdIn par [] (course ++ π.flatMap bl) ∧ Fc h c 0 (course ++ π.flatMap bl) ≤ Fc h c 0 s

theorem Hn.start : Hn h c par (fun k => if k < 6 then [k] else []) [] := by
  refine ⟨by decide, fun k hk => ?_, trivial, fun s hp ho => ⟨s, hp.nodup_iff.mpr List.nodup_range, fun b => ?_, ?_, ?_⟩⟩
  · by_cases q : k < 6
    · exact ⟨q, [], by simp [q], trivial⟩
    · simp [q] at hk
  · rw [hp.mem_iff, List.mem_range]
    by_cases q : b < 6 <;> simp [q]
  all_goals
    have e : s.flatMap (fun k => if k < 6 then [k] else []) = s := by
      have : ∀ l : List Nat, (∀ k ∈ l, k < 6) → l.flatMap (fun k => if k < 6 then [k] else []) = l := by
        intro l
        induction l with
        | nil => intro _; rfl
        | cons x r ih => intro hl; rw [List.flatMap_cons, ih fun k hk => hl k (.tail _ hk), if_pos (hl x (.head _))]; rfl
      exact this s fun k hk => by simpa using hp.mem_iff.mp hk
    rw [List.nil_append, e]
  · exact ho
  · exact Int.le_refl _

theorem flat_ratio {bl : Nat → List Nat} {k : Nat} (hr : ∀ b, bl b ≠ [] → tot (bl b) c * tot (bl k) h ≤ tot (bl k) c * tot (bl b) h) : ∀ X : List Nat, (∀ b ∈ X, bl b ≠ []) → tot (X.flatMap bl) c * tot (bl k) h ≤ tot (bl k) c * tot (X.flatMap bl) h
  | [], _ => by simp [tot]
  | x :: X, hX => by
    have ih := flat_ratio hr X fun b hb => hX b (.tail _ hb)
    have := hr x (hX x (.head _))
    rw [List.flatMap_cons, tot_append, tot_append, Int.add_mul, Int.mul_add]; omega

theorem flat_congr {f g : Nat → List Nat} {X : List Nat} (e : ∀ b ∈ X, f b = g b) : X.flatMap f = X.flatMap g := by
  induction X with
  | nil => rfl
  | cons x r ih => rw [List.flatMap_cons, List.flatMap_cons, e x (.head _), ih fun b hb => e b (.tail _ hb)]

theorem block_ord {bl : Nat → List Nat} {course : List Nat} (H : Hn h c par bl course) {k : Nat} (hk : bl k ≠ []) {A : List Nat} (ha : ∀ i, par k = some i → i ∈ A) : OrdIn par A (bl k) := by
  obtain ⟨_, r, e, o⟩ := H.first k hk
  rw [e]
  exact ⟨ha, o.mono fun i hi => List.mem_append.mpr (.inr hi)⟩

theorem flat_perm {bl : Nat → List Nat} {k : Nat} (hk : k < 6) (f : Nat → List Nat) (hf : ∀ b, b ≠ k → f b = bl b) : ((List.range 6).flatMap bl).Perm (bl k ++ (List.range 6).flatMap fun b => if b = k then [] else bl b) ∧ ((List.range 6).flatMap f).Perm (f k ++ (List.range 6).flatMap fun b => if b = k then [] else bl b) := by
  have go : ∀ (g : Nat → List Nat) (l : List Nat), l.Nodup → k ∈ l → (∀ b, b ≠ k → g b = bl b) → (l.flatMap g).Perm (g k ++ l.flatMap fun b => if b = k then [] else bl b) := by
    intro g l nd hm hg
    obtain ⟨A, B, rfl⟩ := List.append_of_mem hm
    rw [List.nodup_append] at nd
    obtain ⟨n1, n2, n3⟩ := nd
    have eA : A.flatMap g = A.flatMap fun b => if b = k then [] else bl b := flat_congr fun b hb => by
      have : b ≠ k := n3 b hb k (.head _)
      rw [if_neg this, hg b this]
    have eB : B.flatMap g = B.flatMap fun b => if b = k then [] else bl b := flat_congr fun b hb => by
      have : b ≠ k := fun q => (List.nodup_cons.mp n2).1 (q ▸ hb)
      rw [if_neg this, hg b this]
    rw [List.flatMap_append, List.flatMap_append, List.flatMap_cons, List.flatMap_cons, eA, eB, if_pos rfl, List.nil_append]
    rw [← List.append_assoc, ← List.append_assoc]
    exact List.perm_append_comm.append_right _
  exact ⟨go bl _ List.nodup_range (List.mem_range.mpr hk) fun _ _ => rfl, go f _ List.nodup_range (List.mem_range.mpr hk) hf⟩

theorem Hn.out {bl : Nat → List Nat} {course : List Nat} (H : Hn h c par bl course) {k : Nat} (hk : bl k ≠ []) (hr : ∀ b, bl b ≠ [] → tot (bl b) c * tot (bl k) h ≤ tot (bl k) c * tot (bl b) h)
    (hp : ∀ i, par k = some i → i ∈ course) : Hn h c par (fun b => if b = k then [] else bl b) (course ++ bl k) := by
  have hk6 := (H.first k hk).1
  have ok := block_ord H hk hp
  refine ⟨?_, fun b hb => ?_, OrdIn.append.mpr ⟨H.oc, by simpa using ok⟩, fun s hs ho => ?_⟩
  · have e := (flat_perm hk6 bl fun _ _ => rfl).1
    rw [List.append_assoc]
    exact (e.symm.append_left course).trans H.perm
  · by_cases q : b = k
    · simp [q] at hb
    · simp only [q, if_false] at hb ⊢
      exact H.first b hb
  · obtain ⟨π, nd, hm, oπ, cπ⟩ := H.dom s hs ho
    obtain ⟨X, Y, rfl⟩ := List.append_of_mem ((hm k).mpr hk)
    have nd' := nd
    rw [List.nodup_append] at nd
    obtain ⟨n1, n2, n3⟩ := nd
    have hkX : k ∉ X := fun q => n3 k q k (.head _) rfl
    have hkY : k ∉ Y := (List.nodup_cons.mp n2).1
    have e : (X ++ Y).flatMap (fun b => if b = k then [] else bl b) = X.flatMap bl ++ Y.flatMap bl := by
      rw [List.flatMap_append]
      congr 1 <;> refine flat_congr fun b hb => if_neg fun q => ?_
      · exact hkX (q ▸ hb)
      · exact hkY (q ▸ hb)
    rw [List.flatMap_append, List.flatMap_cons] at oπ cπ
    refine ⟨X ++ Y, ?_, fun b => ?_, ?_, ?_⟩
    · rw [List.nodup_append]
      exact ⟨n1, (List.nodup_cons.mp n2).2, fun a ha b hb => n3 a ha b (.tail _ hb)⟩
    · have := hm b
      simp only [List.mem_append, List.mem_cons] at this ⊢
      by_cases q : b = k
      · subst q; simp [hkX, hkY]
      · simp only [q, false_or, if_false] at this ⊢; exact this
    · rw [e, List.append_assoc]
      exact oπ.move ok
    · rw [e, List.append_assoc]
      refine Int.le_trans ?_ cπ
      rw [Fc_append, Fc_append 0 course]
      have := Fc_swap (h := h) (c := c) (0 + tot course h) (X.flatMap bl) (bl k) (Y.flatMap bl) (flat_ratio hr X fun b hb => (hm b).mp (by simp [hb]))
      omega

theorem flat_all {bl : Nat → List Nat} : ∀ (l : List Nat), l.flatMap bl = (l.filter fun b => !(bl b).isEmpty).flatMap bl
  | [] => rfl
  | x :: r => by
    rw [List.filter_cons, List.flatMap_cons, flat_all r]
    by_cases q : bl x = []
    · simp [q]
    · have : (!(bl x).isEmpty) = true := by simpa using q
      rw [if_pos this, List.flatMap_cons]

theorem pi_perm {bl : Nat → List Nat} {course π : List Nat} (H : Hn h c par bl course) (nd : π.Nodup) (hm : ∀ b, b ∈ π ↔ bl b ≠ []) : (course ++ π.flatMap bl).Perm (List.range 6) := by
  have p : π.Perm ((List.range 6).filter fun b => !(bl b).isEmpty) := by
    rw [List.perm_ext_iff_of_nodup nd (List.nodup_range.filter _)]
    intro b
    rw [hm, List.mem_filter, List.mem_range]
    constructor
    · intro hb; exact ⟨(H.first b hb).1, by simpa using hb⟩
    · rintro ⟨_, hb⟩; simpa using hb
  have := (p.flatMap_right bl).append_left course
  rw [← flat_all] at this
  exact this.trans H.perm

theorem Hn.join {bl : Nat → List Nat} {course : List Nat} (H : Hn h c par bl course) {k p i : Nat} (hk : bl k ≠ []) (hr : ∀ b, bl b ≠ [] → tot (bl b) c * tot (bl k) h ≤ tot (bl k) c * tot (bl b) h)
    (hpar : par k = some i) (hi : i ∈ bl p) (hpk : p ≠ k) : Hn h c par (fun b => if b = k then [] else if b = p then bl p ++ bl k else bl b) course := by
  have hp : bl p ≠ [] := fun q => by rw [q] at hi; cases hi
  have hk6 := (H.first k hk).1
  have hp6 := (H.first p hp).1
  refine ⟨?_, fun b hb => ?_, H.oc, fun s hs ho => ?_⟩
  · have e1 := (flat_perm (bl := bl) hk6 bl fun _ _ => rfl).1
    have e2 := flat_perm (bl := fun b => if b = k then [] else bl b) hp6 (fun b => if b = k then [] else if b = p then bl p ++ bl k else bl b) (fun b hb => by simp [hb])
    simp only [if_neg hpk, if_true] at e2
    have e3 : ((List.range 6).flatMap fun b => if b = k then [] else if b = p then bl p ++ bl k else bl b).Perm ((List.range 6).flatMap bl) := by
      refine e2.2.trans ?_
      refine List.Perm.trans ?_ e1.symm
      refine List.Perm.trans ?_ (e2.1.symm.append_left (bl k))
      rw [← List.append_assoc]
      exact List.perm_append_comm.append_right _
    exact (e3.append_left course).trans H.perm
  · by_cases q : b = k
    · simp [q] at hb
    · simp only [q, if_false] at hb ⊢
      by_cases q2 : b = p
      · subst q2
        simp only [if_true]
        obtain ⟨_, r, e, o⟩ := H.first b hp
        refine ⟨hp6, r ++ bl k, by rw [e]; rfl, OrdIn.append.mpr ⟨o, ?_⟩⟩
        refine block_ord H hk fun j hj => ?_
        rw [hpar] at hj; cases hj
        rw [e] at hi; exact hi
      · simp only [q2, if_false] at hb ⊢
        exact H.first b hb
  · obtain ⟨π, nd, hm, oπ, cπ⟩ := H.dom s hs ho
    have pp := pi_perm H nd hm
    obtain ⟨X, Y, rfl⟩ := List.append_of_mem ((hm k).mpr hk)
    have nd0 := nd
    rw [List.nodup_append] at nd
    obtain ⟨n1, n2, n3⟩ := nd
    have hkX : k ∉ X := fun q => n3 k q k (.head _) rfl
    have hkY : k ∉ Y := (List.nodup_cons.mp n2).1
    rw [List.flatMap_append, List.flatMap_cons] at oπ cπ pp
    have hpX : p ∈ X := by
      have hpm := (hm p).mpr hp
      rcases List.mem_append.mp hpm with z | z
      · exact z
      · rcases List.mem_cons.mp z with z | z
        · exact absurd z hpk
        · exfalso
          have ndw : (course ++ (X.flatMap bl ++ (bl k ++ Y.flatMap bl))).Nodup := pp.nodup_iff.mpr List.nodup_range
          have o2 := oπ
          rw [OrdIn.append, OrdIn.append, OrdIn.append] at o2
          obtain ⟨_, _, o3, _⟩ := o2
          obtain ⟨_, r, ek, _⟩ := H.first k hk
          rw [ek] at o3
          have him := o3.1 i hpar
          have hiY : i ∈ bl k ++ Y.flatMap bl := List.mem_append.mpr (.inr (List.mem_flatMap.mpr ⟨p, z, hi⟩))
          rw [← List.append_assoc, List.nodup_append] at ndw
          exact ndw.2.2 i (by simpa using him) i hiY rfl
    obtain ⟨X1, X2, rfl⟩ := List.append_of_mem hpX
    rw [List.nodup_append] at n1
    obtain ⟨m1, m2, m3⟩ := n1
    have hpX1 : p ∉ X1 := fun q => m3 p q p (.head _) rfl
    have hpX2 : p ∉ X2 := (List.nodup_cons.mp m2).1
    have hpY : p ∉ Y := fun q => n3 p hpX p (.tail _ q) rfl
    rw [List.flatMap_append, List.flatMap_cons] at oπ cπ
    have e : (X1 ++ p :: (X2 ++ Y)).flatMap (fun b => if b = k then [] else if b = p then bl p ++ bl k else bl b) = X1.flatMap bl ++ (bl p ++ (bl k ++ (X2.flatMap bl ++ Y.flatMap bl))) := by
      rw [List.flatMap_append, List.flatMap_cons, List.flatMap_append, if_neg hpk, if_pos rfl]
      have f1 : X1.flatMap (fun b => if b = k then [] else if b = p then bl p ++ bl k else bl b) = X1.flatMap bl := flat_congr fun b hb => by
        rw [if_neg (show b ≠ k from fun q => hkX (q ▸ List.mem_append.mpr (.inl hb))), if_neg (show b ≠ p from fun q => hpX1 (q ▸ hb))]
      have f2 : X2.flatMap (fun b => if b = k then [] else if b = p then bl p ++ bl k else bl b) = X2.flatMap bl := flat_congr fun b hb => by
        rw [if_neg (show b ≠ k from fun q => hkX (q ▸ List.mem_append.mpr (.inr (.tail _ hb)))), if_neg (show b ≠ p from fun q => hpX2 (q ▸ hb))]
      have f3 : Y.flatMap (fun b => if b = k then [] else if b = p then bl p ++ bl k else bl b) = Y.flatMap bl := flat_congr fun b hb => by
        rw [if_neg (show b ≠ k from fun q => hkY (q ▸ hb)), if_neg (show b ≠ p from fun q => hpY (q ▸ hb))]
      rw [f1, f2, f3, List.append_assoc]
    have assoc : course ++ (X1.flatMap bl ++ (bl p ++ X2.flatMap bl) ++ (bl k ++ Y.flatMap bl)) = (course ++ X1.flatMap bl ++ bl p) ++ (X2.flatMap bl ++ (bl k ++ Y.flatMap bl)) := by simp only [List.append_assoc]
    have assoc2 : course ++ (X1.flatMap bl ++ (bl p ++ (bl k ++ (X2.flatMap bl ++ Y.flatMap bl)))) = (course ++ X1.flatMap bl ++ bl p) ++ (bl k ++ (X2.flatMap bl ++ Y.flatMap bl)) := by simp only [List.append_assoc]
    rw [assoc] at oπ cπ
    refine ⟨X1 ++ p :: (X2 ++ Y), ?_, fun b => ?_, ?_, ?_⟩
    · have : (X1 ++ p :: (X2 ++ Y)).Sublist ((X1 ++ p :: X2) ++ k :: Y) := by
        rw [List.append_assoc]
        exact List.Sublist.append (.refl _) (List.Sublist.cons_cons p (List.Sublist.append (.refl _) (List.sublist_cons_self _ _)))
      exact this.nodup nd0
    · have hb := hm b
      simp only [List.mem_append, List.mem_cons] at hb ⊢
      by_cases q : b = k
      · subst q
        simp only [if_true, ne_eq, not_true, iff_false]
        rintro (z | z | z | z)
        · exact hkX (List.mem_append.mpr (.inl z))
        · exact hpk z.symm
        · exact hkX (List.mem_append.mpr (.inr (.tail _ z)))
        · exact hkY z
      · simp only [q, if_false, false_or] at hb ⊢
        by_cases q2 : b = p
        · subst q2; simp [hp]
        · simp only [q2, if_false, false_or] at hb ⊢
          rw [← hb]
          constructor
          · rintro (z | z | z)
            · exact .inl (.inl z)
            · exact .inl (.inr z)
            · exact .inr z
          · rintro ((z | z) | z)
            · exact .inl z
            · exact .inr (.inl z)
            · exact .inr (.inr z)
    · rw [e, assoc2]
      refine oπ.move (block_ord H hk fun j hj => ?_)
      rw [hpar] at hj; cases hj
      exact List.mem_append.mpr (.inr hi)
    · rw [e, assoc2]
      refine Int.le_trans ?_ cπ
      rw [Fc_append, Fc_append 0 (course ++ X1.flatMap bl ++ bl p)]
      have := Fc_swap (h := h) (c := c) (0 + tot (course ++ X1.flatMap bl ++ bl p) h) (X2.flatMap bl) (bl k) (Y.flatMap bl) (flat_ratio hr X2 fun b hb => (hm b).mp (by simp [hb]))
      omega

/-- when no block is left -/
theorem Hn.done {bl : Nat → List Nat} {course : List Nat} (H : Hn h c par bl course) (hb : ∀ b, bl b = []) : course.Perm (List.range 6) ∧ OrdIn par [] course ∧ ∀ s : List Nat, s.Perm (List.range 6) → OrdIn par [] s → Fc h c 0 course ≤ Fc h c 0 s := by
  have e : ∀ l : List Nat, l.flatMap bl = [] := fun l => by
    induction l with
    | nil => rfl
    | cons x r ih => rw [List.flatMap_cons, hb x, ih]; rfl
  refine ⟨by simpa [e] using H.perm, H.oc, fun s hs ho => ?_⟩
  obtain ⟨π, _, _, _, hc⟩ := H.dom s hs ho
  rw [e, List.append_nil] at hc
  exact hc
end
end Mine
end
section
namespace Mine
def insideOf (m : Nat) : List Nat := (List.range 6).filter fun k => decide (m / 2 ^ k % 2 = 1)
theorem inside_cut : ∀ m : Nat, m < 64 → ∀ k : Nat, k < 6 → k ∈ insideOf m → insideOf (m - 2 ^ k) = (insideOf m).filter (fun j => decide (j ≠ k)) ∧ m - 2 ^ k < m ∧ 2 ^ k ≤ m := by decide +kernel
theorem inside_zero : insideOf 0 = [] := by decide
theorem inside_full : insideOf 63 = List.range 6 := by decide
theorem inside_pos : ∀ m : Nat, m < 64 → 0 < m → insideOf m ≠ [] := by decide +kernel

section
variable {h c : Nat → Int} {par : Nat → Option Nat}
def Feas (par : Nat → Option Nat) (m : Nat) (s : List Nat) : Prop := s.Perm (insideOf m) ∧ OrdIn par [] s
def LeastAt (h c : Nat → Int) (par : Nat → Option Nat) (m : Nat) (v : Int) : Prop := (∃ s, Feas par m s ∧ Fc h c 0 s = v) ∧ ∀ s, Feas par m s → v ≤ Fc h c 0 s
theorem feas_snoc (hp : ∀ k i, par k = some i → i ≠ k) {m : Nat} (hm : m < 64) {s : List Nat} {k : Nat} : Feas par m (s ++ [k]) ↔ k ∈ insideOf m ∧ Feas par (m - 2 ^ k) s ∧ ∀ i, par k = some i → i ∈ insideOf m := by
  have nd : (insideOf m).Nodup := List.nodup_range.filter _
  constructor
  · rintro ⟨p, o⟩
    have hk : k ∈ insideOf m := p.mem_iff.mp (by simp)
    have hk6 : k < 6 := by simpa using (List.mem_filter.mp hk).1
    rw [OrdIn.append] at o
    have nds : (s ++ [k]).Nodup := p.nodup_iff.mpr nd
    refine ⟨hk, ⟨?_, o.1⟩, fun i hi => p.mem_iff.mp (List.mem_append.mpr (.inl (by simpa using o.2.1 i hi)))⟩
    rw [(inside_cut m hm k hk6 hk).1]
    have hks : k ∉ s := fun q => (List.nodup_append.mp nds).2.2 k q k (by simp) rfl
    have := p.filter (fun j => decide (j ≠ k))
    rw [List.filter_append] at this
    have e1 : s.filter (fun j => decide (j ≠ k)) = s := List.filter_eq_self.mpr fun a ha => by
      have : a ≠ k := fun q => hks (q ▸ ha)
      simpa using this
    rw [e1] at this
    simpa using this
  · rintro ⟨hk, ⟨p, o⟩, hi⟩
    have hk6 : k < 6 := by simpa using (List.mem_filter.mp hk).1
    rw [(inside_cut m hm k hk6 hk).1] at p
    refine ⟨?_, OrdIn.append.mpr ⟨o, fun i hpi => ?_, trivial⟩⟩
    · have e : (insideOf m).filter (fun j => decide (j ≠ k)) = (insideOf m).erase k := by
        rw [nd.erase_eq_filter]
        apply List.filter_congr
        intro j _
        by_cases q : j = k <;> simp [q]
      rw [e] at p
      exact (List.perm_append_singleton k s).trans ((p.cons k).trans (List.perm_cons_erase hk).symm)
    · have := p.mem_iff.mpr (List.mem_filter.mpr ⟨hi i hpi, by simpa using hp k i hpi⟩)
      simpa using this
theorem Fc_snoc {m : Nat} {s : List Nat} {k : Nat} (p : (s ++ [k]).Perm (insideOf m)) : Fc h c 0 (s ++ [k]) = Fc h c 0 s + c k * tot (insideOf m) h := by
  rw [Fc_append, ← tot_perm p, tot_append, tot_cons, tot_nil]
  simp only [Fc]
  congr 1
  rw [show (0 : Int) + tot s h + h k = tot s h + (h k + 0) from by omega]; omega
/-- one mask more -/
theorem least_step (hp : ∀ k i, par k = some i → i ≠ k) {m : Nat} (hm : m < 64) (h0 : 0 < m) (L : Nat → Option Int) (hL : ∀ j, j < m → (∀ v, L j = some v → LeastAt h c par j v) ∧ (L j = none → ∀ s, ¬ Feas par j s))
    (told : List Int) (ht : ∀ x, x ∈ told ↔ ∃ k, k ∈ insideOf m ∧ (∀ i, par k = some i → i ∈ insideOf m) ∧ ∃ v, L (m - 2 ^ k) = some v ∧ x = v + c k * tot (insideOf m) h) :
    (told ≠ [] → ∀ x, x ∈ told → (∀ y ∈ told, x ≤ y) → LeastAt h c par m x) ∧ (told = [] → ∀ s, ¬ Feas par m s) := by
  have key : ∀ s, Feas par m s → ∃ x, x ∈ told ∧ x ≤ Fc h c 0 s := by
    intro s hs
    have hne : s ≠ [] := fun q => by
      subst q
      exact inside_pos m hm h0 (List.nil_perm.mp hs.1)
    obtain ⟨r, k, rfl⟩ : ∃ r k, s = r ++ [k] := ⟨s.dropLast, s.getLast hne, (List.dropLast_concat_getLast _).symm⟩
    obtain ⟨hk, hr, hi⟩ := (feas_snoc hp hm).mp hs
    have hk6 : k < 6 := by simpa using (List.mem_filter.mp hk).1
    have hj := hL _ (inside_cut m hm k hk6 hk).2.1
    cases e : L (m - 2 ^ k) with
    | none => exact absurd hr (hj.2 e r)
    | some v =>
      refine ⟨_, (ht _).mpr ⟨k, hk, hi, v, e, rfl⟩, ?_⟩
      rw [Fc_snoc hs.1]
      have := (hj.1 v e).2 r hr
      omega
  refine ⟨fun _ x hx hmin => ⟨?_, fun s hs => ?_⟩, fun e s hs => ?_⟩
  · obtain ⟨k, hk, hi, v, hv, rfl⟩ := (ht x).mp hx
    have hk6 : k < 6 := by simpa using (List.mem_filter.mp hk).1
    obtain ⟨⟨r, hr, er⟩, _⟩ := (hL _ (inside_cut m hm k hk6 hk).2.1).1 v hv
    have hf := (feas_snoc hp hm).mpr ⟨hk, hr, hi⟩
    exact ⟨r ++ [k], hf, by rw [Fc_snoc hf.1, er]⟩
  · obtain ⟨y, hy, hle⟩ := key s hs
    have := hmin y hy
    omega
  · obtain ⟨y, hy, _⟩ := key s hs
    rw [e] at hy; cases hy
end
end Mine
end
section
namespace Mine
theorem ratio_le {a b : Int} {p q : Nat} (hp : 1 ≤ p) (hp' : p ≤ 18) (hq : 1 ≤ q) (hq' : q ≤ 18) (h : b * ((12252240 : Int).fdiv q) ≤ a * ((12252240 : Int).fdiv p)) : b * (p : Int) ≤ a * (q : Int) := by
  have ex : ∀ r : Nat, r ≤ 18 → 1 ≤ r → (12252240 : Int).fdiv (r : Int) * (r : Int) = 12252240 := by decide +kernel
  have e1 := ex p hp' hp
  have e2 := ex q hq' hq
  clear ex
  generalize (12252240 : Int).fdiv (q : Int) = Q at h e2
  generalize (12252240 : Int).fdiv (p : Int) = P at h e1
  have h1 : b * Q * ((p : Int) * q) ≤ a * P * ((p : Int) * q) := Int.mul_le_mul_of_nonneg_right h (Int.mul_nonneg (by omega) (by omega))
  have l1 : b * Q * ((p : Int) * q) = b * (p : Int) * (Q * q) := by
    rw [Int.mul_assoc b, Int.mul_assoc b]; congr 1
    rw [← Int.mul_assoc, ← Int.mul_assoc, Int.mul_comm Q]
  have l2 : a * P * ((p : Int) * q) = a * (q : Int) * (P * p) := by
    rw [Int.mul_assoc a, Int.mul_assoc a]; congr 1
    rw [← Int.mul_assoc, Int.mul_comm]
  rw [l1, l2, e1, e2] at h1
  omega
theorem argBest_lex (l : List (List Int)) : ∀ k, k < l.length → PySem.argBest (fun i j => lexLt (l.getD j []) (l.getD i [])) k ≤ k ∧ ∀ i, i ≤ k → Ge (l.getD (PySem.argBest (fun i j => lexLt (l.getD j []) (l.getD i [])) k) []) (l.getD i [])
  | 0, _ => ⟨Nat.le_refl _, fun i hi => by
    obtain rfl : i = 0 := Nat.le_zero.mp hi
    exact Ge.refl _⟩
  | k + 1, hk => by
    obtain ⟨i1, i2⟩ := argBest_lex l k (by omega)
    simp only [PySem.argBest]
    split
    · rename_i q
      refine ⟨Nat.le_refl _, fun i hi => ?_⟩
      by_cases e : i = k + 1
      · subst e; exact Ge.refl _
      · exact (Ge.of_lt q).trans (i2 i (by omega))
    · rename_i q
      refine ⟨by omega, fun i hi => ?_⟩
      by_cases e : i = k + 1
      · subst e
        unfold Ge
        simpa using q
      · exact i2 i (by omega)
theorem bestT_max {l : List (List Int)} (h : l ≠ []) : l.getD (bestT l) [] ∈ l ∧ ∀ x ∈ l, Ge (l.getD (bestT l) []) x := by
  have hp : 0 < l.length := List.length_pos_iff.mpr h
  obtain ⟨a, b⟩ := argBest_lex l (l.length - 1) (by omega)
  refine ⟨g_mem (l := l) (by unfold bestT; omega), fun x hx => ?_⟩
  obtain ⟨i, hi, rfl⟩ := List.mem_iff_getElem.mp hx
  have := b i (by omega)
  have e : l.getD i [] = l[i] := by rw [List.getD_eq_getElem?_getD, List.getElem?_eq_getElem hi]; rfl
  rw [e] at this
  exact this
end Mine
end
section
open PySem PySem.W PyProof.Rows PySem.Calls
set_option maxRecDepth 100000
namespace Mine
local macro_rules | `(tactic| walk_at "loc") => `(tactic| first | assumption | with_reducible exact loc_hit | (with_reducible refine loc_put ?_; walk_at "loc") | (with_reducible refine loc_miss ?_ ?_; (· decide); walk_at "loc") | rfl)
local macro_rules | `(tactic| walk_at "mem") => `(tactic| first | assumption | with_reducible exact mem_hit | (with_reducible refine mem_set ?_; walk_at "mem") | (with_reducible refine mem_miss ?_ ?_; (· assumption); walk_at "mem") | rfl)
local macro_rules | `(tactic| walk_at "name") => `(tactic| refine AE_name ‹Cx.Ok _ _› (by walk_at "loc") ?_)
local macro_rules | `(tactic| walk_at "kind") => `(tactic| first | exact ⟨by decide, Or.inl (by rfl)⟩ | exact ⟨by decide, Or.inr ⟨by rfl, _, by rfl, by decide⟩⟩)
local macro_rules | `(tactic| walk_at "asn") => `(tactic| refine AX_assign (by with_unfolding_all rfl) (by with_unfolding_all rfl) (by with_unfolding_all rfl) ?_)

abbrev d5 (i : Nat) : DefRec := recAt PySem.Challenge.pw_dp0038_05 i

theorem sd_walk5 {B : Base} {n : Nat} {σ : St} {a : Addr} {s p : Nat} {l : List El} {x : El} {Q : Val → St → Prop} (hm : σ.mem a = some (.list (l.map tv))) (hlen : l.length ≤ 1000) (hp : l[p]? = some x)
    (h : Q .none (σ.put a (.list ((sd x s p l).map tv)))) : CallD B n [Str.ofString "heap", Str.ofString "startpos", Str.ofString "pos"] (d5 2).body (d5 2).scope [.ref a, .int s, .int p] σ Q := by
  intro A L qual fa code ok
  generalize hX : (⟨B, A, fnFm L qual fa code (d5 2).scope, (d5 2).scope⟩ : Cx) = X at ok ⊢
  conv => arg 2; whnf
  refine AS_cons ?_
  walk_at "asn"
  refine AE_subN (by intro _ _; rfl) ?_
  walk_at "name"
  walk_at "name"
  have hpl := get_lt hp
  refine ⟨p, _, _, rfl, .ref hm, by omega, map_get hp, ?_⟩
  refine AG_name ok (Writes_fn hX (by decide) (by decide +kernel)) ?_
  refine AS_cons ?_
  refine T.mono (P := SdE a x (sd x s p l) σ) (AX_while (SdI a s x (sd x s p l) σ) ?_ p ⟨⟨l, hm, (sd_length _ _).symm, hpl, rfl⟩, by walk_at "loc", by walk_at "loc", by walk_at "loc", by walk_at "loc", fun _ _ => rfl⟩) ?_
  rotate_left
  · rintro fl σ2 ⟨rfl, ⟨q, l1, hm1, hq, hl1, hs, e4⟩, e1, e3, hf⟩
    rw [sd_length] at hl1
    refine AS_cons ?_
    walk_at "asn"
    walk_at "name"
    refine AG_itemN ?_
    walk_at "name"
    walk_at "name"
    refine ⟨a, _, q, rfl, rfl, hm1, by simpa using hq, by simp; omega, ?_⟩
    refine AS_nil ?_
    rw [map_set, hs]
    rw [back_put (σ := σ) (a := a) (by rw [hm]; rfl) mem_hit fun b hb _ => ?_]
    · exact h
    · rw [St.put_mem, if_neg hb]; exact hf b hb
  rintro q σ1 ⟨⟨l1, hm1, hlen1, hq, hres⟩, e1, e2, e3, e4, hf⟩
  have hll : l1.length = l.length := hlen1.trans (sd_length _ _)
  refine AT_cmp rfl ?_
  walk_at "name"
  walk_at "name"
  refine Cmp_gt ?_
  refine ⟨fun hc => ?_, fun hc => ?_⟩
  · have hc' : s < q := by simpa using hc
    have hpar : (q - 1) / 2 < l1.length := by omega
    obtain ⟨y, hy⟩ : ∃ y, l1[(q - 1) / 2]? = some y := ⟨_, List.getElem?_eq_getElem hpar⟩
    refine AS_cons ?_
    walk_at "asn"
    refine AE_bin ?_
    refine AE_bin ?_
    walk_at "name"
    refine AE_int ?_
    refine Op_sub ?_
    refine AE_int ?_
    refine Op_rshift (by decide) ?_
    have ep : ((q : Int) - 1).fdiv (2 ^ (1 : Int).toNat) = (((q - 1) / 2 : Nat) : Int) := by
      rw [show ((2 : Int) ^ (1 : Int).toNat) = 2 from rfl, Int.fdiv_eq_ediv_of_nonneg _ (by decide)]; omega
    rw [ep]
    refine AG_name ok (Writes_fn hX (by decide) (by decide +kernel)) ?_
    refine AS_cons ?_
    walk_at "asn"
    refine AE_subN (by intro _ _; rfl) ?_
    walk_at "name"
    walk_at "name"
    refine ⟨(q - 1) / 2, _, _, rfl, .ref hm1, by omega, map_get hy, ?_⟩
    refine AG_name ok (Writes_fn hX (by decide) (by decide +kernel)) ?_
    refine AS_cons ?_
    refine AX_if ?_
    refine AT_cmp rfl ?_
    walk_at "name"
    walk_at "name"
    refine Cmp_ltT ok ?_
    refine ⟨fun hl => ?_, fun hl => ?_⟩
    · refine AS_cons ?_
      walk_at "asn"
      walk_at "name"
      refine AG_itemN ?_
      walk_at "name"
      walk_at "name"
      refine ⟨a, _, q, rfl, rfl, hm1, by simpa using hq, by simp; omega, ?_⟩
      refine AS_cons ?_
      walk_at "asn"
      walk_at "name"
      refine AG_name ok (Writes_fn hX (by decide) (by decide +kernel)) ?_
      refine AS_cons ?_
      refine AX_continue ?_
      refine ⟨(q - 1) / 2, by omega, ⟨l1.set q y, ?_, by simpa using hlen1, by simpa using hpar, ?_⟩, by walk_at "loc", by walk_at "loc", by walk_at "loc", by walk_at "loc", fun b hb => ?_⟩
      · rw [← map_set]; exact mem_hit
      · rw [← hres, sd_up hc' hy hl]
      · show ((St.put _ a _).mem b) = _
        rw [St.put_mem, if_neg hb]; exact hf b hb
    · refine AS_nil ?_
      refine AS_cons ?_
      refine AX_break ?_
      exact ⟨rfl, ⟨q, l1, hm1, hq, hlen1, (sd_end hc' hy hl).symm.trans hres, by walk_at "loc"⟩, by walk_at "loc", by walk_at "loc", hf⟩
  · have hc' : ¬ s < q := by simpa using hc
    exact ⟨rfl, ⟨q, l1, hm1, hq, hlen1, (sd_stop hc').symm.trans hres, e4⟩, e1, e3, hf⟩

theorem mul_ok (a : Nat) (_h : a < 2 ^ 40) : IntMulOk 2 (a : Int) := .of_left (by decide)

theorem su_walk5 {B : Base} {n : Nat} {σ : St} {a : Addr} {p : Nat} {l : List El} {x : El} {Q : Val → St → Prop} {fa1 : Addr} {fd1 : FuncData} {o1 : Obj}
    (F : FnAt B (Str.ofString "_siftdown_max") [Str.ofString "heap", Str.ofString "startpos", Str.ofString "pos"] (d5 2).body (d5 2).scope fa1 fd1 o1) (hlenf : B.mg (Str.ofString "len") = none)
    (hm : σ.mem a = some (.list (l.map tv))) (hlen : l.length ≤ 1000) (hp : l[p]? = some x)
    (h : Q .none (σ.put a (.list ((sup x p l).map tv)))) : CallD B (n + 1) [Str.ofString "heap", Str.ofString "pos"] (d5 3).body (d5 3).scope [.ref a, .int p] σ Q := by
  intro A L qual fa code ok
  generalize hX : (⟨B, A, fnFm L qual fa code (d5 3).scope, (d5 3).scope⟩ : Cx) = X at ok ⊢
  have hpl := get_lt hp
  have hB : X.B = B := by rw [← hX]
  conv => arg 2; whnf
  refine AS_cons ?_
  walk_at "asn"
  refine AE_builtin ok (BName_fn hX hlenf (by decide) (by decide) (by rfl) (by rfl)) (by rfl) (by rfl) ?_
  refine AEs_cons (by rfl) ?_
  walk_at "name"
  refine AEs_nil ?_
  refine BC_len (.ref hm) (by simp; omega) ?_
  rw [List.length_map]
  refine AG_name ok (Writes_fn hX (by decide) (by decide +kernel)) ?_
  refine AS_cons ?_
  walk_at "asn"
  walk_at "name"
  refine AG_name ok (Writes_fn hX (by decide) (by decide +kernel)) ?_
  refine AS_cons ?_
  walk_at "asn"
  refine AE_subN (by intro _ _; rfl) ?_
  walk_at "name"
  walk_at "name"
  refine ⟨p, _, _, rfl, .ref hm, by omega, map_get hp, ?_⟩
  refine AG_name ok (Writes_fn hX (by decide) (by decide +kernel)) ?_
  refine AS_cons ?_
  walk_at "asn"
  refine AE_bin ?_
  refine AE_bin ?_
  refine AE_int ?_
  walk_at "name"
  refine Op_mul (mul_ok p (by omega)) ?_
  refine AE_int ?_
  refine Op_add ?_
  refine AG_name ok (Writes_fn hX (by decide) (by decide +kernel)) ?_
  refine AS_cons ?_
  have hsu := su_ok (x := x) _ p l rfl hpl
  refine T.mono (P := SuE a p x (su x p l) σ) (AX_while (SuI a p x (su x p l) l.length σ) ?_ (l.length - p) ⟨⟨p, l, hm, rfl, hpl, rfl, rfl, by walk_at "loc", by walk_at "loc"⟩, by walk_at "loc", by walk_at "loc", by walk_at "loc", by walk_at "loc", fun _ _ => rfl⟩) ?_
  · rintro k σ1 ⟨⟨q, l1, hm1, hl1, hq, rfl, hres, e5, e6⟩, e1, e2, e3, e4, hf⟩
    refine AT_cmp rfl ?_
    walk_at "name"
    walk_at "name"
    refine Cmp_lt ?_
    refine ⟨fun hc => ?_, fun hc => ?_⟩
    · have hc' : 2 * q + 1 < l1.length := by have := of_decide_eq_true hc; omega
      obtain ⟨y1, hy1⟩ : ∃ y, l1[2 * q + 1]? = some y := ⟨_, List.getElem?_eq_getElem hc'⟩
      refine AS_cons ?_
      walk_at "asn"
      refine AE_bin ?_
      walk_at "name"
      refine AE_int ?_
      refine Op_add ?_
      rw [show (((2 * q + 1 : Nat) : Int) + 1) = ((2 * q + 2 : Nat) : Int) from by omega]
      refine AG_name ok (Writes_fn hX (by decide) (by decide +kernel)) ?_
      refine AS_cons ?_
      -- the child that is taken
      refine T.mono (P := fun fl σ2 => fl = .next ∧ σ2.mem = σ1.mem ∧ σ2.loc (Str.ofString "childpos") = some (.int (suC q l1 : Nat)) ∧ σ2.loc (Str.ofString "heap") = some (.ref a) ∧ σ2.loc (Str.ofString "startpos") = some (.int p) ∧ σ2.loc (Str.ofString "newitem") = some (tv x) ∧ σ2.loc (Str.ofString "endpos") = some (.int l.length) ∧ σ2.loc (Str.ofString "pos") = some (.int q)) ?_ ?_
      · refine AX_if ?_
        refine AT_and ?_
        refine AT_cmp rfl ?_
        walk_at "name"
        walk_at "name"
        refine Cmp_lt ?_
        refine ⟨fun h2 => ?_, fun h2 => ?_⟩
        · have h2' : 2 * q + 2 < l1.length := by have := of_decide_eq_true h2; omega
          obtain ⟨y2, hy2⟩ : ∃ y, l1[2 * q + 2]? = some y := ⟨_, List.getElem?_eq_getElem h2'⟩
          refine AT_not ?_
          refine AT_cmp rfl ?_
          refine AE_subN (by intro _ _; rfl) ?_
          walk_at "name"
          walk_at "name"
          refine ⟨2 * q + 2, _, _, rfl, .ref hm1, by omega, map_get hy2, ?_⟩
          refine AE_subN (by intro _ _; rfl) ?_
          walk_at "name"
          walk_at "name"
          refine ⟨2 * q + 1, _, _, rfl, .ref hm1, by omega, map_get hy1, ?_⟩
          refine Cmp_ltT ok ?_
          refine ⟨fun h3 => ?_, fun h3 => ?_⟩
          · have ec : suC q l1 = 2 * q + 2 := by
              unfold suC; rw [if_pos ⟨h2', by rw [getD_of hy2, getD_of hy1]; simpa using h3⟩]
            refine AS_cons ?_
            walk_at "asn"
            walk_at "name"
            refine AG_name ok (Writes_fn hX (by decide) (by decide +kernel)) ?_
            refine AS_nil ⟨rfl, rfl, ?_, by walk_at "loc", by walk_at "loc", by walk_at "loc", by walk_at "loc", by walk_at "loc"⟩
            rw [ec]; exact loc_hit
          · have ec : suC q l1 = 2 * q + 1 := by
              unfold suC; rw [if_neg (fun z => by have := z.2; rw [getD_of hy2, getD_of hy1] at this; simp [this] at h3)]
            refine AS_nil ⟨rfl, rfl, ?_, by walk_at "loc", by walk_at "loc", by walk_at "loc", by walk_at "loc", by walk_at "loc"⟩
            rw [ec]; walk_at "loc"
        · have ec : suC q l1 = 2 * q + 1 := by
            unfold suC; rw [if_neg (fun z => by have := z.1; have := of_decide_eq_false h2; omega)]
          refine ⟨(fun z => nomatch z), fun _ => ?_⟩
          refine AS_nil ⟨rfl, rfl, ?_, by walk_at "loc", by walk_at "loc", by walk_at "loc", by walk_at "loc", by walk_at "loc"⟩
          rw [ec]; walk_at "loc"
      · rintro fl σ2 ⟨rfl, em, f1, f2, f3, f4, f5, f6⟩
        have hcl := suC_lt hc'
        obtain ⟨y, hy⟩ : ∃ y, l1[suC q l1]? = some y := ⟨_, List.getElem?_eq_getElem hcl.1⟩
        have hm2 : σ2.mem a = some (.list (l1.map tv)) := (congrFun em a).trans hm1
        refine AS_cons ?_
        walk_at "asn"
        refine AE_subN (by intro _ _; rfl) ?_
        walk_at "name"
        walk_at "name"
        refine ⟨suC q l1, _, _, rfl, .ref hm2, by omega, map_get hy, ?_⟩
        refine AG_itemN ?_
        walk_at "name"
        walk_at "name"
        refine ⟨a, _, q, rfl, rfl, hm2, by simp; omega, by simp; omega, ?_⟩
        refine AS_cons ?_
        walk_at "asn"
        walk_at "name"
        refine AG_name ok (Writes_fn hX (by decide) (by decide +kernel)) ?_
        refine AS_cons ?_
        walk_at "asn"
        refine AE_bin ?_
        refine AE_bin ?_
        refine AE_int ?_
        walk_at "name"
        refine Op_mul (mul_ok _ (by omega)) ?_
        refine AE_int ?_
        refine Op_add ?_
        refine AG_name ok (Writes_fn hX (by decide) (by decide +kernel)) ?_
        refine AS_nil ?_
        refine ⟨l.length - suC q l1, by omega, ⟨suC q l1, l1.set q y, ?_, by simpa using hl1, by omega, rfl, ?_, by walk_at "loc", by walk_at "loc"⟩, by walk_at "loc", by walk_at "loc", by walk_at "loc", by walk_at "loc", fun b hb => ?_⟩
        · rw [← map_set]; exact mem_hit
        · rw [← hres, su_step hc', getD_of hy]
        · show ((St.put _ a _).mem b) = _
          rw [St.put_mem, if_neg hb, em]; exact hf b hb
    · have hc' : ¬ 2 * q + 1 < l1.length := by have := of_decide_eq_false hc; omega
      rw [su_stop hc'] at hres
      exact ⟨rfl, by rw [← hres]; exact hm1, by rw [← hres]; exact e5, e1, e2, e3, hf⟩
  · rintro fl σ2 ⟨rfl, hm2, e5, e1, e2, e3, hf⟩
    refine AS_cons ?_
    walk_at "asn"
    walk_at "name"
    refine AG_itemN ?_
    walk_at "name"
    walk_at "name"
    refine ⟨a, _, _, rfl, rfl, hm2, by simp; omega, by simp; omega, ?_⟩
    rw [map_set]
    refine AS_cons ?_
    refine AX_expr (by rw [← hX]; rfl) (by with_unfolding_all rfl) ?_
    refine AE_call ok (hB ▸ F) (by rw [← hX]; rfl) (by decide) (by rfl) ?_
    refine AEs_cons (by rfl) ?_
    walk_at "name"
    refine AEs_cons (by rfl) ?_
    walk_at "name"
    refine AEs_cons (by rfl) ?_
    walk_at "name"
    refine AEs_nil ⟨rfl, ?_⟩
    refine sd_walk5 mem_hit (by simp; omega) (x := x) (by rw [List.getElem?_set_self]; omega) ?_
    refine AS_nil ?_
    rw [back_put (σ := σ) (a := a) (by rw [hm]; rfl) mem_hit fun b hb _ => ?_]
    · exact h
    · rw [St.put_mem, if_neg hb, St.put_mem, if_neg hb]; exact hf b hb

theorem hp_walk5 {B : Base} {n : Nat} {σ : St} {a : Addr} {l : List El} {y : El} {Q : Val → St → Prop} {fa1 : Addr} {fd1 : FuncData} {o1 : Obj} {fa2 : Addr} {fd2 : FuncData} {o2 : Obj}
    (F1 : FnAt B (Str.ofString "_siftdown_max") [Str.ofString "heap", Str.ofString "startpos", Str.ofString "pos"] (d5 2).body (d5 2).scope fa1 fd1 o1) (hlenf : B.mg (Str.ofString "len") = none)
    (F2 : FnAt B (Str.ofString "_siftup_max") [Str.ofString "heap", Str.ofString "pos"] (d5 3).body (d5 3).scope fa2 fd2 o2)
    (hm : σ.mem a = some (.list ((l ++ [y]).map tv))) (hlen : l.length < 1000)
    (h0 : l = [] → Q (tv y) (σ.put a (.list []))) (h1 : ∀ x, l[0]? = some x → Q (tv x) (σ.put a (.list ((sup y 0 (l.set 0 y)).map tv)))) :
    CallD B (n + 2) [Str.ofString "heap"] (d5 1).body (d5 1).scope [.ref a] σ Q := by
  intro A L qual fa code ok
  generalize hX : (⟨B, A, fnFm L qual fa code (d5 1).scope, (d5 1).scope⟩ : Cx) = X at ok ⊢
  have hB : X.B = B := by rw [← hX]
  conv => arg 2; whnf
  refine AS_cons ?_
  walk_at "asn"
  refine AE_pop ?_ (by rfl) (by with_unfolding_all rfl)
  walk_at "name"
  refine ⟨a, l.map tv, tv y, rfl, hm.trans (by simp), by simp; omega, ?_⟩
  refine AG_name ok (Writes_fn hX (by decide) (by decide +kernel)) ?_
  refine AS_cons ?_
  refine AX_if ?_
  refine AT_val ?_ (by intro _; rfl)
  walk_at "name"
  refine Tru_list (.ref (by walk_at "mem")) (by simp; omega) ?_
  refine ⟨fun hc => ?_, fun hc => ?_⟩
  · have hl : l ≠ [] := by simpa using hc
    obtain ⟨x, hx⟩ : ∃ x, l[0]? = some x := by
      cases l with
      | nil => exact absurd rfl hl
      | cons x r => exact ⟨x, rfl⟩
    have hxl := get_lt hx
    refine AS_cons ?_
    walk_at "asn"
    refine AE_subN (by intro _ _; rfl) ?_
    walk_at "name"
    refine AE_int ?_
    refine ⟨0, _, _, rfl, .ref (by walk_at "mem"), by omega, map_get hx, ?_⟩
    refine AG_name ok (Writes_fn hX (by decide) (by decide +kernel)) ?_
    refine AS_cons ?_
    walk_at "asn"
    walk_at "name"
    refine AG_itemN ?_
    walk_at "name"
    refine AE_int ?_
    refine ⟨a, _, 0, rfl, rfl, by walk_at "mem", by simp; omega, by simp; omega, ?_⟩
    rw [map_set]
    refine AS_cons ?_
    refine AX_expr (by rw [← hX]; rfl) (by with_unfolding_all rfl) ?_
    refine AE_call ok (hB ▸ F2) (by rw [← hX]; rfl) (by decide) (by rfl) ?_
    refine AEs_cons (by rfl) ?_
    walk_at "name"
    refine AEs_cons (by rfl) ?_
    refine AE_int ?_
    refine AEs_nil ⟨rfl, ?_⟩
    refine su_walk5 (hB ▸ F1) (hB ▸ hlenf) mem_hit (by simp; omega) (p := 0) (x := y) (by rw [List.getElem?_set_self hxl]) ?_
    refine AS_cons ?_
    refine AX_ret ?_
    walk_at "name"
    rw [back_put (σ := σ) (a := a) (by rw [hm]; rfl) mem_hit fun b hb _ => ?_]
    · exact h1 x hx
    · simp only [St.put_mem, St.set_mem, if_neg hb]; rfl
  · have hl : l = [] := by simpa using hc
    refine AS_nil ?_
    refine AS_cons ?_
    refine AX_ret ?_
    walk_at "name"
    rw [back_put (σ := σ) (a := a) (bx := .list []) (by rw [hm]; rfl) (by rw [St.set_mem, St.put_mem, if_pos rfl, hl]; rfl) fun b hb _ => ?_]
    · exact h0 hl
    · simp only [St.put_mem, St.set_mem, if_neg hb]; rfl
end Mine
end
section
open PySem PySem.W PyProof.Rows PySem.Calls
set_option maxRecDepth 100000
namespace Mine
local macro_rules | `(tactic| walk_at "loc") => `(tactic| first | assumption | with_reducible exact loc_hit | (with_reducible refine loc_put ?_; walk_at "loc") | (with_reducible refine loc_miss ?_ ?_; (· decide); walk_at "loc") | rfl)
local macro_rules | `(tactic| walk_at "mem") => `(tactic| first | assumption | with_reducible exact mem_hit | (with_reducible refine mem_set ?_; walk_at "mem") | (with_reducible refine mem_miss ?_ ?_; (· assumption); walk_at "mem") | rfl)
local macro_rules | `(tactic| walk_at "name") => `(tactic| refine AE_name ‹Cx.Ok _ _› (by walk_at "loc") ?_)
local macro_rules | `(tactic| walk_at "asn") => `(tactic| refine AX_assign (by with_unfolding_all rfl) (by with_unfolding_all rfl) (by with_unfolding_all rfl) ?_)
local macro_rules | `(tactic| walk_at "put") => `(tactic| refine AG_name ‹Cx.Ok _ _› (Writes_fn ‹_ = _› (by decide) (by decide +kernel)) ?_)


structure Free5 (B : Base) : Prop where
  len : B.mg (Str.ofString "len") = none
  max : B.mg (Str.ofString "max") = none
  min : B.mg (Str.ofString "min") = none
  sum : B.mg (Str.ofString "sum") = none
  sorted : B.mg (Str.ofString "sorted") = none
  range : B.mg (Str.ofString "range") = none
  enumerate : B.mg (Str.ofString "enumerate") = none
  sys : ∃ c o, sysModules < c ∧ B.h₁.get? c = some o

def zs (l : List Nat) : List Int := l.map fun (k : Nat) => (k : Int)
abbrev nv (l : List Nat) : List Val := (zs l).map Val.int
theorem nv_eq (l : List Nat) : nv l = l.map fun (k : Nat) => Val.int (k : Int) := by unfold nv zs; rw [List.map_map]; rfl
theorem zs_len (l : List Nat) : (zs l).length = l.length := by simp [zs]
theorem zs_mem {l : List Nat} {j : Nat} : (j : Int) ∈ zs l ↔ j ∈ l := by
  unfold zs
  rw [List.mem_map]
  constructor
  · rintro ⟨a, ha, e⟩
    have : a = j := by omega
    exact this ▸ ha
  · intro h; exact ⟨j, h, rfl⟩
theorem nv_mem {l : List Nat} {V : Val} (h : V ∈ nv l) : ∃ k : Nat, k ∈ l ∧ V = .int (k : Int) := by
  rw [nv_eq] at h
  obtain ⟨k, hk, rfl⟩ := List.mem_map.mp h
  exact ⟨k, hk, rfl⟩
theorem nv_filter (l : List Nat) (p : Nat → Bool) (q : Val → Bool) (h : ∀ k ∈ l, q (.int (k : Int)) = p k) : (nv l).filter q = nv (l.filter p) := by
  rw [nv_eq, nv_eq, List.filter_map]
  congr 1
  exact List.filter_congr fun k hk => h k hk
theorem rangeV (n : Nat) : (rangeL 0 (n : Int) 1).map Val.int = nv (List.range n) := by
  rw [rangeL_1, nv_eq, List.map_map]
  simp
theorem ATs_one {X : Cx} {σ : St} {c : Expr} {Q : Bool → St → Prop} (h : AT X c σ Q) : ATs X [c] σ Q := T.mono h fun b σ1 q => ⟨fun e => by subst e; exact q, fun e => by subst e; exact q⟩

/-! the works -/
structure Wk where
  hr : Int
  ov : Int
  co : Int
def Wk.v (w : Wk) : Val := .tup [.int w.hr, .int w.ov, .int w.co]
def hrOf (ws : List Wk) (k : Nat) : Int := (ws.getD k ⟨1, -1, 0⟩).hr
def ovOf (ws : List Wk) (k : Nat) : Int := (ws.getD k ⟨1, -1, 0⟩).ov
def coOf (ws : List Wk) (k : Nat) : Int := (ws.getD k ⟨1, -1, 0⟩).co
def parOf (ws : List Wk) (k : Nat) : Option Nat := if ovOf ws k < 0 then none else some (ovOf ws k).toNat
theorem wk_get {ws : List Wk} {k : Nat} (h : k < ws.length) : (ws.map Wk.v)[k]? = some (.tup [.int (hrOf ws k), .int (ovOf ws k), .int (coOf ws k)]) := by
  rw [List.getElem?_map]
  unfold hrOf ovOf coOf
  rw [List.getD_eq_getElem?_getD, List.getElem?_eq_getElem h]; rfl
theorem bit_and : ∀ m : Nat, m < 64 → ∀ k : Nat, k < 6 → Builtin.bitAnd ((m : Int).fdiv (2 ^ (k : Int).toNat)) 1 = ((m / 2 ^ k % 2 : Nat) : Int) := by decide +kernel

/-- the table, as far as it goes -/
def DOk (ws : List Wk) (M : Nat) (kvs : List (Int × Val)) : Prop := kvs.length ≤ M + 1 ∧ ∀ j : Nat, j < 64 →
  (j < M → (∀ V, kvs.lookup (j : Int) = some V → ∃ v, V = .int v ∧ LeastAt (hrOf ws) (coOf ws) (parOf ws) j v) ∧ (kvs.lookup (j : Int) = none → ∀ s, ¬ Feas (parOf ws) j s)) ∧ (M ≤ j → kvs.lookup (j : Int) = none)
theorem lookup_stored {kvs : List (Int × Val)} {k j : Int} {V : Val} : (storedV kvs k V).lookup j = if j = k then some V else kvs.lookup j := by
  have hmap : ∀ kvs : List (Int × Val), (kvs.any fun kv => decide (kv.1 = k)) = true → (kvs.map fun kv => if kv.1 = k then (kv.1, V) else kv).lookup k = some V := by
    intro kvs
    induction kvs with
    | nil => intro h; simp at h
    | cons p r ih =>
      obtain ⟨a, U⟩ := p
      intro h
      rw [List.map_cons]
      by_cases q : a = k
      · simp [q, List.lookup_cons]
      · have q' : (k == a) = false := by simpa using Ne.symm q
        have h' : (r.any fun kv => decide (kv.1 = k)) = true := by simpa [q] using h
        simp only [q, if_false, List.lookup_cons, q']
        exact ih h'
  have hoth : ∀ kvs : List (Int × Val), j ≠ k → (kvs.map fun kv => if kv.1 = k then (kv.1, V) else kv).lookup j = kvs.lookup j := by
    intro kvs hj
    induction kvs with
    | nil => rfl
    | cons p r ih =>
      obtain ⟨a, U⟩ := p
      rw [List.map_cons, List.lookup_cons]
      by_cases q : a = k
      · have q' : (j == a) = false := by rw [q]; simpa using hj
        simp only [q, if_true, List.lookup_cons]
        rw [q] at q'
        simp only [q']
        exact ih
      · simp only [q, if_false, List.lookup_cons, ih]
  have hnone : ∀ kvs : List (Int × Val), ¬ (kvs.any fun kv => decide (kv.1 = k)) = true → kvs.lookup k = none := by
    intro kvs
    induction kvs with
    | nil => intro _; rfl
    | cons p r ih =>
      obtain ⟨a, U⟩ := p
      intro h
      rw [List.any_cons] at h
      have q : a ≠ k := fun z => h (by simp [z])
      have q' : (k == a) = false := by simpa using Ne.symm q
      rw [List.lookup_cons, q']
      exact ih fun z => h (by rw [z]; simp)
  unfold storedV
  by_cases h : (kvs.any fun kv => decide (kv.1 = k)) = true
  · rw [if_pos h]
    by_cases hj : j = k
    · subst hj; rw [if_pos rfl]; exact hmap kvs h
    · rw [if_neg hj]; exact hoth kvs hj
  · rw [if_neg h, List.lookup_append]
    by_cases hj : j = k
    · subst hj; rw [if_pos rfl, hnone kvs h]; simp [List.lookup_cons]
    · have q' : (j == k) = false := by simpa using hj
      rw [if_neg hj]
      simp [List.lookup_cons, q']
end Mine
end
section
open PySem PySem.W PyProof.Rows PySem.Calls
set_option maxRecDepth 100000
namespace Mine
theorem foldl_min_mem : ∀ (r : List Int) (x : Int), r.foldl min x ∈ x :: r ∧ ∀ y ∈ x :: r, r.foldl min x ≤ y
  | [], x => ⟨.head _, fun y hy => by simp at hy; subst hy; exact Int.le_refl _⟩
  | a :: r, x => by
    obtain ⟨h1, h2⟩ := foldl_min_mem r (min x a)
    rw [List.foldl_cons]
    refine ⟨?_, fun y hy => ?_⟩
    · rcases List.mem_cons.mp h1 with q | q
      · rw [q]
        by_cases z : x ≤ a
        · rw [Int.min_eq_left z]; exact .head _
        · rw [Int.min_eq_right (by omega)]; exact .tail _ (.head _)
      · exact .tail _ (.tail _ q)
    · have h0 := h2 (min x a) (.head _)
      rcases List.mem_cons.mp hy with q | q
      · subst q; omega
      · rcases List.mem_cons.mp q with q | q
        · subst q; omega
        · exact h2 y (.tail _ q)
theorem minL_spec {l : List Int} (h : l ≠ []) : minL l ∈ l ∧ ∀ y ∈ l, minL l ≤ y := by
  cases l with
  | nil => exact absurd rfl h
  | cons x r => exact foldl_min_mem r x

/-- what the works of the set may be the last for -/
def toldOf (ws : List Wk) (kvs : List (Int × Val)) (m : Nat) (l : List Nat) : List Int :=
  l.filterMap fun k => if ovOf ws k < 0 ∨ ovOf ws k ∈ zs (insideOf m) then (match kvs.lookup ((m - 2 ^ k : Nat) : Int) with | some (.int v) => some (v + coOf ws k * tot (insideOf m) (hrOf ws)) | _ => none) else none

def lookI (kvs : List (Int × Val)) (j : Nat) : Option Int := match kvs.lookup (j : Int) with | some (.int v) => some v | _ => none

theorem par_cond (ws : List Wk) (k : Nat) (l : List Nat) : (∀ i, parOf ws k = some i → i ∈ l) ↔ (ovOf ws k < 0 ∨ ovOf ws k ∈ zs l) := by
  unfold parOf
  by_cases h : ovOf ws k < 0
  · simp [h]
  · simp only [h, if_false, false_or]
    have e : ovOf ws k = ((ovOf ws k).toNat : Int) := by omega
    constructor
    · intro q
      rw [e]; exact zs_mem.mpr (q _ rfl)
    · intro q i hi
      cases hi
      rw [e] at q
      exact zs_mem.mp q

theorem told_mem (ws : List Wk) (kvs : List (Int × Val)) (m : Nat) (x : Int) : x ∈ toldOf ws kvs m (insideOf m) ↔ ∃ k, k ∈ insideOf m ∧ (∀ i, parOf ws k = some i → i ∈ insideOf m) ∧ ∃ v, lookI kvs (m - 2 ^ k) = some v ∧ x = v + coOf ws k * tot (insideOf m) (hrOf ws) := by
  unfold toldOf
  rw [List.mem_filterMap]
  constructor
  · rintro ⟨k, hk, e⟩
    refine ⟨k, hk, ?_⟩
    rw [par_cond]
    split at e
    · rename_i c
      refine ⟨c, ?_⟩
      unfold lookI
      split at e
      · rename_i v hv
        exact ⟨v, rfl, by simpa using e.symm⟩
      · cases e
    · cases e
  · rintro ⟨k, hk, hc, v, hv, rfl⟩
    refine ⟨k, hk, ?_⟩
    rw [if_pos ((par_cond ws k _).mp hc)]
    unfold lookI at hv
    split at hv
    · rename_i u hu
      cases hv
      rfl
    · cases hv

theorem storedV_len (kvs : List (Int × Val)) (k : Int) (V : Val) : (storedV kvs k V).length ≤ kvs.length + 1 := by
  unfold storedV
  split <;> simp

theorem dok_step {ws : List Wk} (hp : ∀ k i, parOf ws k = some i → i ≠ k) {m : Nat} (hm : m < 64) (h0 : 0 < m) {kvs : List (Int × Val)} (hd : DOk ws m kvs) :
    (toldOf ws kvs m (insideOf m) ≠ [] → DOk ws (m + 1) (storedV kvs (m : Int) (.int (minL (toldOf ws kvs m (insideOf m)))))) ∧ (toldOf ws kvs m (insideOf m) = [] → DOk ws (m + 1) kvs) := by
  obtain ⟨hlen, hd⟩ := hd
  have st := least_step (h := hrOf ws) (c := coOf ws) (par := parOf ws) hp hm h0 (lookI kvs) (fun j hj => by
    have := (hd j (by omega)).1 hj
    refine ⟨fun v hv => ?_, fun hn => ?_⟩
    · unfold lookI at hv
      split at hv
      · rename_i u hu
        cases hv
        obtain ⟨v', e, h⟩ := this.1 _ hu
        cases e; exact h
      · cases hv
    · unfold lookI at hn
      cases e : kvs.lookup (j : Int) with
      | none => exact this.2 e
      | some V =>
        obtain ⟨v', rfl, _⟩ := this.1 _ e
        rw [e] at hn; cases hn) _ (told_mem ws kvs m)
  refine ⟨fun hne => ⟨?_, fun j hj => ⟨fun h1 => ?_, fun h1 => ?_⟩⟩, fun he => ⟨by omega, fun j hj => ⟨fun h1 => ?_, fun h1 => (hd j hj).2 (by omega)⟩⟩⟩
  · have := storedV_len kvs (m : Int) (.int (minL (toldOf ws kvs m (insideOf m)))); omega
  · rw [lookup_stored]
    by_cases q : j = m
    · subst q
      rw [if_pos rfl]
      obtain ⟨s1, s2⟩ := minL_spec hne
      refine ⟨fun V hV => ⟨_, by cases hV; rfl, st.1 hne _ s1 s2⟩, fun h => by cases h⟩
    · rw [if_neg (by omega)]
      exact (hd j hj).1 (by omega)
  · rw [lookup_stored, if_neg (by omega)]
    exact (hd j hj).2 (by omega)
  · by_cases q : j = m
    · subst q
      have e := (hd j hj).2 (Nat.le_refl _)
      refine ⟨fun V hV => ?_, fun _ => st.2 he⟩
      rw [e] at hV; cases hV
    · exact (hd j hj).1 (by omega)

theorem dok_end {ws : List Wk} (hov : ∀ k, k < 6 → ovOf ws k < (k : Int)) {kvs : List (Int × Val)} (hd : DOk ws 64 kvs) : ∃ v, kvs.lookup (63 : Int) = some (.int v) ∧ LeastAt (hrOf ws) (coOf ws) (parOf ws) 63 v := by
  have h := (hd.2 63 (by decide)).1 (by decide)
  cases e : kvs.lookup ((63 : Nat) : Int) with
  | none =>
    exfalso
    refine h.2 e (List.range 6) ⟨by rw [inside_full], ?_⟩
    have hp : ∀ k, k < 6 → ∀ i, parOf ws k = some i → i < k := fun k hk i hi => by
      unfold parOf at hi
      split at hi
      · cases hi
      · cases hi
        have := hov k hk
        omega
    have e6 : List.range 6 = [0, 1, 2, 3, 4, 5] := by decide
    rw [e6]
    refine ⟨fun i hi => ?_, fun i hi => ?_, fun i hi => ?_, fun i hi => ?_, fun i hi => ?_, fun i hi => ?_, trivial⟩
    · have := hp 0 (by decide) i hi; omega
    · have := hp 1 (by decide) i hi; simp; omega
    · have := hp 2 (by decide) i hi; simp; omega
    · have := hp 3 (by decide) i hi; simp; omega
    · have := hp 4 (by decide) i hi; simp; omega
    · have := hp 5 (by decide) i hi; simp; omega
  | some V =>
    obtain ⟨v, rfl, hv⟩ := h.1 V e
    exact ⟨v, rfl, hv⟩

theorem tot_bound {f : Nat → Int} {b : Int} (hf : ∀ k, 0 ≤ f k ∧ f k ≤ b) : ∀ l : List Nat, 0 ≤ tot l f ∧ tot l f ≤ b * l.length
  | [] => by simp [tot]
  | x :: r => by
    have := tot_bound hf r
    have := hf x
    rw [tot_cons, List.length_cons]
    have e : b * ((r.length + 1 : Nat) : Int) = b * (r.length : Int) + b := by
      rw [show ((r.length + 1 : Nat) : Int) = (r.length : Int) + 1 from by omega, Int.mul_add, Int.mul_one]
    omega
end Mine
end
section
open PySem PySem.W PyProof.Rows PySem.Calls
set_option maxRecDepth 100000
namespace Mine
theorem ratio_ge {a b : Int} {p q : Nat} (hp : 1 ≤ p) (hp' : p ≤ 18) (hq : 1 ≤ q) (hq' : q ≤ 18) (h : b * (p : Int) ≤ a * (q : Int)) : b * ((12252240 : Int).fdiv q) ≤ a * ((12252240 : Int).fdiv p) := by
  have ex : ∀ r : Nat, r ≤ 18 → 1 ≤ r → (12252240 : Int).fdiv (r : Int) * (r : Int) = 12252240 := by decide +kernel
  have e1 := ex p hp' hp
  have e2 := ex q hq' hq
  clear ex
  generalize (12252240 : Int).fdiv (q : Int) = Q at e2 ⊢
  generalize (12252240 : Int).fdiv (p : Int) = P at e1 ⊢
  have l1 : b * Q * ((p : Int) * q) = b * (p : Int) * (Q * q) := by
    rw [Int.mul_assoc b, Int.mul_assoc b]; congr 1
    rw [← Int.mul_assoc, ← Int.mul_assoc, Int.mul_comm Q]
  have l2 : a * P * ((p : Int) * q) = a * (q : Int) * (P * p) := by
    rw [Int.mul_assoc a, Int.mul_assoc a]; congr 1
    rw [← Int.mul_assoc, Int.mul_comm]
  have pq : 0 < (p : Int) * q := Int.mul_pos (by omega) (by omega)
  refine Int.le_of_mul_le_mul_right ?_ pq
  rw [l1, l2, e1, e2]
  omega

def curOf (ws : List Wk) (bl : Nat → List Nat) (b : Nat) : Int := tot (bl b) (coOf ws) * (12252240 : Int).fdiv (tot (bl b) (hrOf ws))

structure Hq (ws : List Wk) (bl : Nat → List Nat) (course : List Nat) (H : List El) (lies hrs cos : List Int) : Prop where
  hn : Hn (hrOf ws) (coOf ws) (parOf ws) bl course
  low : ∀ b j, j ∈ bl b → b ≤ j
  ll : lies.length = 6
  lb : ∀ b j, j ∈ bl b → lies[j]? = some (b : Int)
  lc : ∀ j, j ∈ course → lies[j]? = some (-1)
  hl : hrs.length = 6
  hv : ∀ b, bl b ≠ [] → hrs[b]? = some (tot (bl b) (hrOf ws))
  cl : cos.length = 6
  cv : ∀ b, bl b ≠ [] → cos[b]? = some (tot (bl b) (coOf ws))
  hp : HF H 0
  he : ∀ x ∈ H, ∃ (r : Int) (b : Nat), b < 6 ∧ x = [r, -(b : Int)] ∧ (bl b ≠ [] → r ≤ curOf ws bl b)
  hc : ∀ b, bl b ≠ [] → [curOf ws bl b, -(b : Int)] ∈ H

def setAll (l : List Int) (js : List Nat) (v : Int) : List Int := js.foldl (fun l j => l.set j v) l
theorem setAll_len (v : Int) : ∀ (js : List Nat) (l : List Int), (setAll l js v).length = l.length
  | [], _ => rfl
  | j :: js, l => by
    show (setAll (l.set j v) js v).length = _
    rw [setAll_len v js]; simp
theorem setAll_get (v : Int) (i : Nat) : ∀ (js : List Nat) (l : List Int), i < l.length → (setAll l js v)[i]? = if i ∈ js then some v else l[i]?
  | [], _, _ => by simp [setAll]
  | j :: js, l, h => by
    show (setAll (l.set j v) js v)[i]? = _
    rw [setAll_get v i js _ (by simpa using h), List.getElem?_set]
    by_cases q : i ∈ js
    · simp [q]
    · by_cases e : j = i
      · subst e; simp [q, h]
      · simp [q, e, Ne.symm e]
theorem setAll_snoc (l : List Int) (js : List Nat) (j : Nat) (v : Int) : setAll l (js ++ [j]) v = (setAll l js v).set j v := by
  unfold setAll; rw [List.foldl_append]; rfl

def nz (l : List Nat) : Nat := if l = [] then 0 else 1
def cnt (bl : Nat → List Nat) : Nat := nz (bl 0) + nz (bl 1) + nz (bl 2) + nz (bl 3) + nz (bl 4) + nz (bl 5)
theorem cnt_out {bl : Nat → List Nat} {k : Nat} (hk : k < 6) (h : bl k ≠ []) : cnt (fun b => if b = k then [] else bl b) + 1 = cnt bl := by
  have n1 : nz (bl k) = 1 := if_neg h
  have n0 : nz [] = 0 := rfl
  unfold cnt
  rcases (show k = 0 ∨ k = 1 ∨ k = 2 ∨ k = 3 ∨ k = 4 ∨ k = 5 by omega) with rfl | rfl | rfl | rfl | rfl | rfl <;> simp [n0] <;> omega
theorem cnt_congr {bl bl' : Nat → List Nat} (h : ∀ b, bl b = [] ↔ bl' b = []) : cnt bl = cnt bl' := by
  have : ∀ b, nz (bl b) = nz (bl' b) := fun b => by unfold nz; simp [h b]
  unfold cnt; simp only [this]

section
variable {ws : List Wk} {bl : Nat → List Nat} {course : List Nat} {H : List El} {lies hrs cos : List Int}
theorem Hq.lt6 (q : Hq ws bl course H lies hrs cos) {b : Nat} (h : bl b ≠ []) : b < 6 := (q.hn.first b h).1
theorem Hq.mem6 (q : Hq ws bl course H lies hrs cos) {b j : Nat} (h : j ∈ bl b) : j < 6 := by
  have := q.lb b j h
  have := (List.getElem?_eq_some_iff.mp this).1
  rw [q.ll] at this; exact this
theorem Hq.len6 (q : Hq ws bl course H lies hrs cos) (b : Nat) : (bl b).length ≤ 6 := by
  by_cases h : bl b = []
  · rw [h]; simp
  · have e := (flat_perm (bl := bl) (q.lt6 h) bl fun _ _ => rfl).1
    have l1 := e.length_eq
    have l2 := q.hn.perm.length_eq
    simp only [List.length_append, List.length_range] at l1 l2
    omega
theorem Hq.hrs18 (q : Hq ws bl course H lies hrs cos) (hhr : ∀ k, 1 ≤ hrOf ws k ∧ hrOf ws k ≤ 3) {b : Nat} (h : bl b ≠ []) : ∃ p : Nat, tot (bl b) (hrOf ws) = (p : Int) ∧ 1 ≤ p ∧ p ≤ 18 := by
  have t := tot_bound (f := hrOf ws) (b := 3) (fun k => ⟨by have := hhr k; omega, (hhr k).2⟩) (bl b)
  have l := q.len6 b
  have lo : 1 ≤ tot (bl b) (hrOf ws) := by
    obtain ⟨_, r, e, _⟩ := q.hn.first b h
    rw [e, tot_cons]
    have t' := tot_bound (f := hrOf ws) (b := 3) (fun k => ⟨by have := hhr k; omega, (hhr k).2⟩) r
    have := hhr b
    omega
  exact ⟨(tot (bl b) (hrOf ws)).toNat, by omega, by omega, by omega⟩
theorem Hq.place (q : Hq ws bl course H lies hrs cos) {j : Nat} (h : j < 6) : j ∈ course ∨ ∃ b, j ∈ bl b := by
  have := q.hn.perm.mem_iff.mpr (List.mem_range.mpr h)
  rcases List.mem_append.mp this with z | z
  · exact .inl z
  · obtain ⟨b, _, hb⟩ := List.mem_flatMap.mp z
    exact .inr ⟨b, hb⟩
theorem Hq.one (q : Hq ws bl course H lies hrs cos) {j b b' : Nat} (h : j ∈ bl b) (h' : j ∈ bl b') : b = b' := by
  have e := (q.lb b j h).symm.trans (q.lb b' j h')
  injection e with e
  omega
theorem Hq.apart (q : Hq ws bl course H lies hrs cos) {j b : Nat} (h : j ∈ bl b) : j ∉ course := fun h' => by
  have e := (q.lb b j h).symm.trans (q.lc j h')
  injection e with e
  omega
theorem Hq.best (q : Hq ws bl course H lies hrs cos) {r : Int} {k : Nat} (hm : [r, -(k : Int)] ∈ H) (ht : ∀ y ∈ H, Ge [r, -(k : Int)] y) (hk : bl k ≠ []) : ∀ b, bl b ≠ [] → curOf ws bl b ≤ curOf ws bl k := fun b hb => by
  have h1 := ht _ (q.hc b hb)
  obtain ⟨r', k', _, e, hr⟩ := q.he _ hm
  injection e with e1 e2
  injection e2 with e2 _
  have : k' = k := by omega
  subst this
  subst e1
  have h2 := hr hk
  unfold Ge at h1
  simp only [lexLt] at h1
  split at h1
  · omega
  · have := of_decide_eq_false h1
    omega
theorem Hq.ratio (q : Hq ws bl course H lies hrs cos) (hhr : ∀ k, 1 ≤ hrOf ws k ∧ hrOf ws k ≤ 3) {k : Nat} (hk : bl k ≠ []) (hb : ∀ b, bl b ≠ [] → curOf ws bl b ≤ curOf ws bl k) :
    ∀ b, bl b ≠ [] → tot (bl b) (coOf ws) * tot (bl k) (hrOf ws) ≤ tot (bl k) (coOf ws) * tot (bl b) (hrOf ws) := fun b hbb => by
  obtain ⟨p, ep, p1, p2⟩ := q.hrs18 hhr hk
  obtain ⟨s, es, s1, s2⟩ := q.hrs18 hhr hbb
  have := hb b hbb
  unfold curOf at this
  rw [ep, es] at this ⊢
  exact ratio_le p1 p2 s1 s2 this

theorem Hq.none (q : Hq ws bl course H lies hrs cos) {r : Int} {k : Nat} {H' : List El} (hk : bl k = []) (hp : ([r, -(k : Int)] :: H').Perm H) (hf : HF H' 0) (v : Int) : Hq ws (fun b => if b = k then [] else bl b) course H' (setAll lies (bl k) v) hrs cos := by
  have e : (fun b => if b = k then [] else bl b) = bl := by
    funext b
    by_cases z : b = k
    · simp [z, hk]
    · simp [z]
  rw [e, hk]
  refine ⟨q.hn, q.low, q.ll, q.lb, q.lc, q.hl, q.hv, q.cl, q.cv, hf, fun x hx => q.he x (hp.mem_iff.mp (.tail _ hx)), fun b hb => ?_⟩
  rcases List.mem_cons.mp (hp.mem_iff.mpr (q.hc b hb)) with z | z
  · exfalso
    injection z with _ z2
    injection z2 with z2 _
    have : b = k := by omega
    exact hb (this ▸ hk)
  · exact z

theorem Hq.out (q : Hq ws bl course H lies hrs cos) (hhr : ∀ k, 1 ≤ hrOf ws k ∧ hrOf ws k ≤ 3) {r : Int} {k : Nat} {H' : List El} (hk : bl k ≠ []) (ht : ∀ y ∈ H, Ge [r, -(k : Int)] y) (hp : ([r, -(k : Int)] :: H').Perm H) (hf : HF H' 0) (hpar : ∀ i, parOf ws k = some i → i ∈ course) :
    Hq ws (fun b => if b = k then [] else bl b) (course ++ bl k) H' (setAll lies (bl k) (-1)) hrs cos := by
  have hm : [r, -(k : Int)] ∈ H := hp.mem_iff.mp (.head _)
  have cur : ∀ b, b ≠ k → curOf ws (fun b => if b = k then [] else bl b) b = curOf ws bl b := fun b hb => by unfold curOf; simp [hb]
  refine ⟨q.hn.out hk (q.ratio hhr hk (q.best hm ht hk)) hpar, fun b j hj => ?_, by rw [setAll_len]; exact q.ll, fun b j hj => ?_, fun j hj => ?_, q.hl, fun b hb => ?_, q.cl, fun b hb => ?_, hf, fun x hx => ?_, fun b hb => ?_⟩
  · by_cases z : b = k
    · simp [z] at hj
    · simp only [z, if_false] at hj; exact q.low b j hj
  · by_cases z : b = k
    · simp [z] at hj
    · simp only [z, if_false] at hj
      rw [setAll_get _ _ _ _ (by rw [q.ll]; exact q.mem6 hj), if_neg (fun w => z (q.one hj w))]
      exact q.lb b j hj
  · rcases List.mem_append.mp hj with w | w
    · have h6 : j < 6 := by have := (List.getElem?_eq_some_iff.mp (q.lc j w)).1; rw [q.ll] at this; exact this
      rw [setAll_get _ _ _ _ (by rw [q.ll]; exact h6), if_neg (fun z => q.apart z w)]
      exact q.lc j w
    · rw [setAll_get _ _ _ _ (by rw [q.ll]; exact q.mem6 w), if_pos w]
  · by_cases z : b = k
    · simp [z] at hb
    · simp only [z, if_false] at hb ⊢; exact q.hv b hb
  · by_cases z : b = k
    · simp [z] at hb
    · simp only [z, if_false] at hb ⊢; exact q.cv b hb
  · obtain ⟨r', b, hb, e, hr⟩ := q.he x (hp.mem_iff.mp (.tail _ hx))
    refine ⟨r', b, hb, e, fun h => ?_⟩
    by_cases z : b = k
    · simp [z] at h
    · rw [cur b z]; simp only [z, if_false] at h; exact hr h
  · by_cases z : b = k
    · simp [z] at hb
    · rw [cur b z]; simp only [z, if_false] at hb
      rcases List.mem_cons.mp (hp.mem_iff.mpr (q.hc b hb)) with w | w
      · exfalso
        injection w with _ z2
        injection z2 with z2 _
        omega
      · exact w

theorem Hq.join (q : Hq ws bl course H lies hrs cos) (hhr : ∀ k, 1 ≤ hrOf ws k ∧ hrOf ws k ≤ 3) {r : Int} {k p i : Nat} {H' H1 : List El} (hk : bl k ≠ []) (ht : ∀ y ∈ H, Ge [r, -(k : Int)] y) (hp : ([r, -(k : Int)] :: H').Perm H)
    (hpar : parOf ws k = some i) (hik : i < k) (hi : i ∈ bl p) (hf : HF H1 0) (hp1 : H1.Perm (H' ++ [[(tot (bl p) (coOf ws) + tot (bl k) (coOf ws)) * (12252240 : Int).fdiv (tot (bl p) (hrOf ws) + tot (bl k) (hrOf ws)), -(p : Int)]])) :
    Hq ws (fun b => if b = k then [] else if b = p then bl p ++ bl k else bl b) course H1 (setAll lies (bl k) p) (hrs.set p (tot (bl p) (hrOf ws) + tot (bl k) (hrOf ws))) (cos.set p (tot (bl p) (coOf ws) + tot (bl k) (coOf ws))) := by
  have hm : [r, -(k : Int)] ∈ H := hp.mem_iff.mp (.head _)
  have hlow := q.low p i hi
  have hpk : p ≠ k := by omega
  have hp0 : bl p ≠ [] := fun z => by rw [z] at hi; cases hi
  have p6 := q.lt6 hp0
  have best := q.best hm ht hk
  have rat := q.ratio hhr hk best
  have cur : ∀ b, b ≠ k → b ≠ p → curOf ws (fun b => if b = k then [] else if b = p then bl p ++ bl k else bl b) b = curOf ws bl b := fun b hb hb' => by unfold curOf; simp [hb, hb']
  have curp : curOf ws (fun b => if b = k then [] else if b = p then bl p ++ bl k else bl b) p = (tot (bl p) (coOf ws) + tot (bl k) (coOf ws)) * (12252240 : Int).fdiv (tot (bl p) (hrOf ws) + tot (bl k) (hrOf ws)) := by
    unfold curOf; simp only [hpk, if_false, if_true, tot_append]
  have up : curOf ws bl p ≤ curOf ws (fun b => if b = k then [] else if b = p then bl p ++ bl k else bl b) p := by
    rw [curp]
    unfold curOf
    have len : (bl p).length + (bl k).length ≤ 6 := by
      have e := (flat_perm (bl := bl) p6 bl fun _ _ => rfl).1
      have e2 := (flat_perm (bl := fun b => if b = p then [] else bl b) (q.lt6 hk) (fun b => if b = p then [] else bl b) fun _ _ => rfl).1
      have l1 := e.length_eq
      have l2 := q.hn.perm.length_eq
      have l3 := e2.length_eq
      simp only [List.length_append, List.length_range, Ne.symm hpk, if_false] at l1 l2 l3
      omega
    have tp := tot_bound (f := hrOf ws) (b := 3) (fun k => ⟨by have := hhr k; omega, (hhr k).2⟩) (bl p)
    have tk := tot_bound (f := hrOf ws) (b := 3) (fun k => ⟨by have := hhr k; omega, (hhr k).2⟩) (bl k)
    obtain ⟨a, ea, a1, a2⟩ := q.hrs18 hhr hp0
    obtain ⟨c, ec, c1, c2⟩ := q.hrs18 hhr hk
    have rr := rat p hp0
    rw [ea, ec] at rr
    rw [ea] at tp
    rw [ec] at tk
    rw [ea, ec]
    have := ratio_ge (a := tot (bl p) (coOf ws) + tot (bl k) (coOf ws)) (b := tot (bl p) (coOf ws)) (p := a + c) (q := a) (by omega) (by omega) a1 a2 (by
      rw [Int.add_mul, show ((a + c : Nat) : Int) = (a : Int) + c from by omega, Int.mul_add]; omega)
    rw [show ((a + c : Nat) : Int) = (a : Int) + c from by omega] at this
    exact this
  refine ⟨q.hn.join hk rat hpar hi hpk, fun b j hj => ?_, by rw [setAll_len]; exact q.ll, fun b j hj => ?_, fun j hj => ?_, by simp [q.hl], fun b hb => ?_, by simp [q.cl], fun b hb => ?_, hf, fun x hx => ?_, fun b hb => ?_⟩
  · by_cases z : b = k
    · simp [z] at hj
    · by_cases z2 : b = p
      · subst z2
        simp only [z, if_false, if_true] at hj
        rcases List.mem_append.mp hj with w | w
        · exact q.low b j w
        · have := q.low k j w; omega
      · simp only [z, z2, if_false] at hj; exact q.low b j hj
  · by_cases z : b = k
    · simp [z] at hj
    · by_cases z2 : b = p
      · subst z2
        simp only [z, if_false, if_true] at hj
        rcases List.mem_append.mp hj with w | w
        · rw [setAll_get _ _ _ _ (by rw [q.ll]; exact q.mem6 w), if_neg (fun v => z (q.one w v))]
          exact q.lb b j w
        · rw [setAll_get _ _ _ _ (by rw [q.ll]; exact q.mem6 w), if_pos w]
      · simp only [z, z2, if_false] at hj
        rw [setAll_get _ _ _ _ (by rw [q.ll]; exact q.mem6 hj), if_neg (fun v => z (q.one hj v))]
        exact q.lb b j hj
  · have h6 : j < 6 := by have := (List.getElem?_eq_some_iff.mp (q.lc j hj)).1; rw [q.ll] at this; exact this
    rw [setAll_get _ _ _ _ (by rw [q.ll]; exact h6), if_neg (fun z => q.apart z hj)]
    exact q.lc j hj
  · by_cases z : b = k
    · simp [z] at hb
    · by_cases z2 : b = p
      · subst z2
        simp only [z, if_false, if_true]
        rw [List.getElem?_set_self (by rw [q.hl]; exact p6), tot_append]
      · simp only [z, z2, if_false] at hb ⊢
        rw [List.getElem?_set_ne (Ne.symm z2)]; exact q.hv b hb
  · by_cases z : b = k
    · simp [z] at hb
    · by_cases z2 : b = p
      · subst z2
        simp only [z, if_false, if_true]
        rw [List.getElem?_set_self (by rw [q.cl]; exact p6), tot_append]
      · simp only [z, z2, if_false] at hb ⊢
        rw [List.getElem?_set_ne (Ne.symm z2)]; exact q.cv b hb
  · rcases List.mem_append.mp (hp1.mem_iff.mp hx) with w | w
    · obtain ⟨r', b, hb, e, hr⟩ := q.he x (hp.mem_iff.mp (.tail _ w))
      refine ⟨r', b, hb, e, fun h => ?_⟩
      by_cases z : b = k
      · simp [z] at h
      · by_cases z2 : b = p
        · subst z2
          exact Int.le_trans (hr hp0) up
        · rw [cur b z z2]; simp only [z, z2, if_false] at h; exact hr h
    · have e := List.mem_singleton.mp w
      refine ⟨_, p, p6, e, fun _ => ?_⟩
      rw [curp]; exact Int.le_refl _
  · by_cases z : b = k
    · simp [z] at hb
    · by_cases z2 : b = p
      · subst z2
        rw [curp]
        exact hp1.mem_iff.mpr (List.mem_append.mpr (.inr (by simp)))
      · rw [cur b z z2]; simp only [z, z2, if_false] at hb
        rcases List.mem_cons.mp (hp.mem_iff.mpr (q.hc b hb)) with w | w
        · exfalso
          injection w with _ w2
          injection w2 with w2 _
          omega
        · exact hp1.mem_iff.mpr (List.mem_append.mpr (.inl w))

theorem Hq.start {H : List El} (hf : HF H 0) (hp : H.Perm ((List.range 6).map fun k => [coOf ws k * (12252240 : Int).fdiv (hrOf ws k), -(k : Int)])) :
    Hq ws (fun k => if k < 6 then [k] else []) [] H [0, 1, 2, 3, 4, 5] ((List.range 6).map (hrOf ws)) ((List.range 6).map (coOf ws)) := by
  have one : ∀ b, (if b < 6 then [b] else []) ≠ ([] : List Nat) → b < 6 := fun b h => by
    by_cases z : b < 6
    · exact z
    · simp [z] at h
  have cur : ∀ b, b < 6 → curOf ws (fun k => if k < 6 then [k] else []) b = coOf ws b * (12252240 : Int).fdiv (hrOf ws b) := fun b hb => by
    unfold curOf; simp [hb, tot_cons, tot_nil]
  refine ⟨Hn.start, fun b j hj => ?_, rfl, fun b j hj => ?_, fun j hj => (by cases hj), by simp, fun b hb => ?_, by simp, fun b hb => ?_, hf, fun x hx => ?_, fun b hb => ?_⟩
  · by_cases z : b < 6
    · simp [z] at hj; omega
    · simp [z] at hj
  · by_cases z : b < 6
    · simp [z] at hj
      subst hj
      rcases (show j = 0 ∨ j = 1 ∨ j = 2 ∨ j = 3 ∨ j = 4 ∨ j = 5 by omega) with rfl | rfl | rfl | rfl | rfl | rfl <;> rfl
    · simp [z] at hj
  · have z := one b hb
    rw [List.getElem?_map, List.getElem?_range z]
    simp [z, tot_cons, tot_nil]
  · have z := one b hb
    rw [List.getElem?_map, List.getElem?_range z]
    simp [z, tot_cons, tot_nil]
  · obtain ⟨k, hk, rfl⟩ := List.mem_map.mp (hp.mem_iff.mp hx)
    have hk6 : k < 6 := by simpa using hk
    exact ⟨_, k, hk6, rfl, fun _ => by rw [cur k hk6]; exact Int.le_refl _⟩
  · have z := one b hb
    rw [cur b z]
    exact hp.mem_iff.mpr (List.mem_map.mpr ⟨b, List.mem_range.mpr z, rfl⟩)

/-- the heap is empty -/
theorem Hq.fin (q : Hq ws bl course [] lies hrs cos) : course.Perm (List.range 6) ∧ OrdIn (parOf ws) [] course ∧ ∀ s : List Nat, s.Perm (List.range 6) → OrdIn (parOf ws) [] s → Fc (hrOf ws) (coOf ws) 0 course ≤ Fc (hrOf ws) (coOf ws) 0 s :=
  q.hn.done fun b => Decidable.byContradiction fun h => by have := q.hc b h; cases this

theorem OrdIn.at {par : Nat → Option Nat} : ∀ {s A : List Nat} {j k : Nat}, OrdIn par A s → s[j]? = some k → ∀ i, par k = some i → i ∈ A ++ s.take j
  | [], _, _, _, _, h, _, _ => by simp at h
  | x :: r, A, 0, k, o, h, i, hi => by
    simp at h; subst h
    simpa using o.1 i hi
  | x :: r, A, j + 1, k, o, h, i, hi => by
    have := OrdIn.at o.2 (by simpa using h) i hi
    simpa using this
end
theorem sorted_six : ∀ {a b : List Int}, a.Perm b → a.Pairwise (· ≤ ·) → b.Pairwise (· ≤ ·) → a = b
  | [], b, p, _, _ => (List.nil_perm.mp p).symm
  | x :: r, [], p, _, _ => absurd p.length_eq (by simp)
  | x :: r, y :: s, p, h1, h2 => by
    have hx : x = y := by
      rcases List.mem_cons.mp (p.mem_iff.mp (.head _)) with e | e
      · exact e
      · rcases List.mem_cons.mp (p.mem_iff.mpr (.head _)) with e' | e'
        · exact e'.symm
        · have := (List.pairwise_cons.mp h1).1 y e'
          have := (List.pairwise_cons.mp h2).1 x e
          omega
    subst hx
    rw [sorted_six ((List.perm_cons x).mp p) (List.pairwise_cons.mp h1).2 (List.pairwise_cons.mp h2).2]
end Mine
end
section
open PySem PySem.W PyProof.Rows PySem.Calls
set_option maxRecDepth 100000
namespace Mine
theorem pop_walk5 {B : Base} {n : Nat} {σ : St} {a : Addr} {H : List El} {Q : Val → St → Prop} {fa1 : Addr} {fd1 : FuncData} {o1 : Obj} {fa2 : Addr} {fd2 : FuncData} {o2 : Obj}
    (F1 : FnAt B (Str.ofString "_siftdown_max") [Str.ofString "heap", Str.ofString "startpos", Str.ofString "pos"] (d5 2).body (d5 2).scope fa1 fd1 o1) (hlenf : B.mg (Str.ofString "len") = none)
    (F2 : FnAt B (Str.ofString "_siftup_max") [Str.ofString "heap", Str.ofString "pos"] (d5 3).body (d5 3).scope fa2 fd2 o2)
    (hm : σ.mem a = some (.list (H.map tv))) (hlen : H.length ≤ 1000) (hf : HF H 0) (hne : H ≠ [])
    (h : ∀ x H', x ∈ H → (∀ y ∈ H, Ge x y) → (x :: H').Perm H → HF H' 0 → Q (tv x) (σ.put a (.list (H'.map tv)))) :
    CallD B (n + 2) [Str.ofString "heap"] (d5 1).body (d5 1).scope [.ref a] σ Q := by
  obtain ⟨l, y, e, h0, h1⟩ := pop_plain hf hne
  have hm' := hm
  rw [e] at hm'
  have hl : l.length < 1000 := by rw [e] at hlen; simp at hlen; omega
  refine hp_walk5 F1 hlenf F2 hm' hl (fun el => ?_) (fun x hx => ?_)
  · obtain ⟨a1, a2, a3, a4⟩ := h0 el
    exact h y [] a1 a2 a3 a4
  · obtain ⟨a1, a2, a3, a4⟩ := h1 x hx
    exact h x _ a1 a2 a3 a4
theorem push_walk5 {B : Base} {n : Nat} {σ : St} {a : Addr} {H : List El} {x : El} {Q : Val → St → Prop} (hm : σ.mem a = some (.list ((H ++ [x]).map tv))) (hlen : H.length < 1000) (hf : HF H 0)
    (h : ∀ H', H'.Perm (H ++ [x]) → HF H' 0 → Q .none (σ.put a (.list (H'.map tv)))) :
    CallD B n [Str.ofString "heap", Str.ofString "startpos", Str.ofString "pos"] (d5 2).body (d5 2).scope [.ref a, .int 0, .int H.length] σ Q := by
  obtain ⟨r1, r2⟩ := push_spec (x := x) hf
  exact sd_walk5 (s := 0) hm (by simp; omega) (by simp) (h _ r2 r1)
end Mine
end
section
open PySem PySem.W PyProof.Rows PySem.Calls
set_option maxRecDepth 100000
namespace Mine
local macro_rules | `(tactic| walk_at "loc") => `(tactic| first | assumption | with_reducible exact loc_hit | (with_reducible refine loc_put ?_; walk_at "loc") | (with_reducible refine loc_miss ?_ ?_; (· decide); walk_at "loc") | rfl)
local macro_rules | `(tactic| walk_at "mem") => `(tactic| first | assumption | with_reducible exact mem_hit | (with_reducible refine mem_set ?_; walk_at "mem") | (with_reducible refine mem_miss ?_ ?_; (· assumption); walk_at "mem") | rfl)
local macro_rules | `(tactic| walk_at "name") => `(tactic| refine AE_name ‹Cx.Ok _ _› (by walk_at "loc") ?_)
local macro_rules | `(tactic| walk_at "asn") => `(tactic| refine AX_assign (by with_unfolding_all rfl) (by with_unfolding_all rfl) (by with_unfolding_all rfl) ?_)

structure DnI (ws : List Wk) (σ₀ : St) (D : Addr) (i : Nat) (σ : St) : Prop where
  st : ∃ kvs, σ.mem D = some (.dict kvs) ∧ DOk ws (i + 1) kvs
  least : σ.loc (Str.ofString "least") = some (.ref D)
  works : σ.loc (Str.ofString "works") = some (.lst (ws.map Wk.v))
  frame : ∀ a bx, σ₀.mem a = some bx → σ.mem a = some bx

structure ToI (ws : List Wk) (kvs : List (Int × Val)) (m : Nat) (σ₀ : St) (D TA : Addr) (j : Nat) (σ : St) : Prop where
  mt : σ.mem TA = some (.list ((toldOf ws kvs m ((insideOf m).take j)).map Val.int))
  md : σ.mem D = some (.dict kvs)
  told : σ.loc (Str.ofString "told") = some (.ref TA)
  least : σ.loc (Str.ofString "least") = some (.ref D)
  works : σ.loc (Str.ofString "works") = some (.lst (ws.map Wk.v))
  done : σ.loc (Str.ofString "done") = some (.int (m : Int))
  inside : σ.loc (Str.ofString "inside") = some (.lst (nv (insideOf m)))
  clock : σ.loc (Str.ofString "clock") = some (.int (tot (insideOf m) (hrOf ws)))
  frame : ∀ a bx, σ₀.mem a = some bx → σ.mem a = some bx

theorem dok_start (ws : List Wk) : DOk ws 1 [((0 : Int), Val.int 0)] := by
  refine ⟨by simp, fun j hj => ⟨fun h1 => ?_, fun h1 => ?_⟩⟩
  · obtain rfl : j = 0 := by omega
    refine ⟨fun V hV => ⟨0, ?_, ?_⟩, fun h => ?_⟩
    · simpa [List.lookup_cons] using hV.symm
    · refine ⟨⟨[], ⟨by rw [inside_zero], trivial⟩, rfl⟩, fun s hs => ?_⟩
      have : s = [] := by
        have := hs.1
        rw [inside_zero] at this
        exact List.perm_nil.mp this
      rw [this]; exact Int.le_refl _
    · simp [List.lookup_cons] at h
  · have q : ((j : Int) == 0) = false := by
      have : (j : Int) ≠ 0 := by omega
      simpa using this
    simp [List.lookup_cons, q]

set_option maxHeartbeats 4000000 in
theorem least_walk5 {B : Base} {n : Nat} {σ : St} {ws : List Wk} {Q : Val → St → Prop} (F : Free5 B) (hl : ws.length = 6) (hov : ∀ k, k < 6 → ovOf ws k < (k : Int)) (hhr : ∀ k, 0 ≤ hrOf ws k ∧ hrOf ws k ≤ 3) (h : ∀ v, LeastAt (hrOf ws) (coOf ws) (parOf ws) 63 v → Q (.int v) σ) :
    CallD B n [Str.ofString "works"] (d5 5).body (d5 5).scope [.lst (ws.map Wk.v)] σ Q := by
  intro A L qual fa code ok
  generalize hX : (⟨B, A, fnFm L qual fa code (d5 5).scope, (d5 5).scope⟩ : Cx) = X at ok ⊢
  have hB : X.B = B := by rw [← hX]
  conv => arg 2; whnf
  refine AS_cons ?_
  walk_at "asn"
  refine AE_dict1 ⟨_, _, rfl⟩ ⟨_, _, rfl⟩ (fun D hD hsys => ?_) (hB ▸ F.sys)
  refine AG_name ok (Writes_fn hX (by decide) (by decide +kernel)) ?_
  refine AS_cons ?_
  have hD0 : σ.mem D = none := hD
  refine Mine.T.mono (P := fun fl σ2 => fl = .next ∧ DnI ws σ D 63 σ2) ?_ ?_
  · refine AX_for ok (by intro _; rfl) ?_
    refine AI_range2 ok ⟨_, _, rfl⟩ (BName_fn hX F.range (by decide) (by decide) (by rfl) (by rfl)) (by rfl) (by rfl) ?_
    refine AE_int ?_
    refine AE_bin ?_
    refine AE_int ?_
    refine AE_builtin ok (BName_fn hX F.len (by decide) (by decide) (by rfl) (by rfl)) (by rfl) (by rfl) ?_
    refine AEs_cons (by rfl) ?_
    walk_at "name"
    refine AEs_nil ?_
    refine BC_len .lst (by simp [hl]) ?_
    rw [List.length_map, hl]
    refine Op_pow (by decide) (by decide) (by decide) ?_
    refine ⟨_, _, rfl, rfl, by decide +kernel, ?_⟩
    have er : (rangeL 1 (2 ^ ((6 : Nat) : Int).toNat) 1).map Val.int = (List.range 63).map fun (j : Nat) => Val.int ((j + 1 : Nat) : Int) := by
      rw [rangeL_1, List.map_map]
      apply List.map_congr_left
      intro j _
      show Val.int (1 + (j : Int)) = Val.int ((j + 1 : Nat) : Int)
      congr 1; omega
    rw [er]
    refine ForL_inv (DnI ws σ D) ?_ (fun σ' hI => ⟨rfl, by rw [List.length_map, List.length_range] at hI; exact hI⟩) ⟨⟨_, mem_set mem_hit, dok_start ws⟩, by walk_at "loc", by walk_at "loc", fun a bx e => mem_miss (fun q => by rw [q, hD0] at e; cases e) e⟩
    intro i σ2 V hV hI
    obtain ⟨⟨kvs, hm, hok⟩, e1, e2, hfr⟩ := hI
    have hi : i < 63 := by simpa using (List.getElem?_eq_some_iff.mp hV).1
    obtain rfl : V = .int ((i + 1 : Nat) : Int) := by
      rw [List.getElem?_map, List.getElem?_range hi] at hV
      simpa using hV.symm
    refine AG_name ok (Writes_fn hX (by decide) (by decide +kernel)) ?_
    refine AS_cons ?_
    refine AX_assign_comp ok (CompOk_fn hX rfl (by decide) (by decide +kernel)) (by intro _; rfl) (by rw [← hX]; with_unfolding_all rfl) (Writes_fn hX (by decide) (by decide +kernel)) ?_
    refine AI_range1 ok ⟨_, _, rfl⟩ (BName_fn hX F.range (by decide) (by decide) (by rfl) (by rfl)) (by rfl) ?_
    refine AE_builtin ok (BName_fn hX F.len (by decide) (by decide) (by rfl) (by rfl)) (by rfl) (by rfl) ?_
    refine AEs_cons (by rfl) ?_
    walk_at "name"
    refine AEs_nil ?_
    refine BC_len .lst (by simp [hl]) ?_
    rw [List.length_map, hl]
    refine ⟨_, rfl, by decide +kernel, ?_⟩
    rw [rangeV]
    refine CompK_pure (fun V => decide ((i + 1) / 2 ^ V.toInt.toNat % 2 = 1)) id (by simp [zs_len]) (fun _ _ => trivial) ?_ ?_
    · intro C σ3 V okc hVm hmm hll
      obtain ⟨k, hk, rfl⟩ := nv_mem hVm
      have hk6 : k < 6 := by simpa using hk
      refine AG_name okc (Writes_comp ok (by decide) (by rfl)) ?_
      refine ⟨⟨rfl, fun y hy => ?_⟩, ?_⟩
      · rw [St.set_loc, if_neg (fun q => by rw [q] at hy; revert hy; decide)]; exact hll y hy
      · refine ATs_one ?_
        refine AT_cmp rfl ?_
        refine AE_bin ?_
        refine AE_bin ?_
        refine AE_name okc (V := .int ((i + 1 : Nat) : Int)) (loc_miss (by decide) ((hll _ (by rfl)).trans (by walk_at "loc"))) ?_
        refine AE_name okc loc_hit ?_
        refine Op_rshift (by omega) ?_
        refine AE_int ?_
        refine Op_and ?_
        rw [bit_and (i + 1) (by omega) k hk6]
        refine AE_int ?_
        refine Cmp_eq ?_
        refine ⟨rfl, ?_, fun _ => AE_name okc loc_hit ⟨rfl, rfl⟩⟩
        show _ = decide ((i + 1) / 2 ^ (k : Int).toNat % 2 = 1)
        rw [Int.toNat_natCast]
        exact decide_eq_decide.mpr (by omega)
    refine .frozen ?_
    rw [List.map_id, nv_filter _ (fun k => decide ((i + 1) / 2 ^ k % 2 = 1)) _ (fun k _ => by
      show decide ((i + 1) / 2 ^ (k : Int).toNat % 2 = 1) = _
      rw [Int.toNat_natCast]), show (List.range 6).filter (fun k => decide ((i + 1) / 2 ^ k % 2 = 1)) = insideOf (i + 1) from rfl]
    have hin6 : ∀ k ∈ insideOf (i + 1), k < 6 := fun k hk => by simpa using (List.mem_filter.mp hk).1
    have hinl : (insideOf (i + 1)).length ≤ 6 := by
      have := List.length_filter_le (fun k => decide ((i + 1) / 2 ^ k % 2 = 1)) (List.range 6)
      simpa [insideOf] using this
    refine AS_cons ?_
    walk_at "asn"
    refine AE_builtin ok (BName_fn hX F.sum (by decide) (by decide) (by rfl) (by rfl)) (by rfl) (by rfl) ?_
    refine AEs_cons (by rfl) ?_
    refine AE_comp ok (CompOk_fn hX rfl (by decide) (by decide +kernel)) (by intro _; rfl) ?_
    refine AI_list (.inl ⟨_, _, rfl⟩) ?_
    walk_at "name"
    refine ⟨_, .lst, ?_⟩
    refine CompK_pure (fun _ => true) (fun V => .int (hrOf ws V.toInt.toNat)) (by simp [zs_len]; omega) (fun _ _ => .lst) ?_ ?_
    · intro C σ3 V okc hVm hmm hll
      obtain ⟨k, hk, rfl⟩ := nv_mem hVm
      have hk6 := hin6 k hk
      refine AG_name okc (Writes_comp ok (by decide) (by rfl)) ?_
      refine ⟨⟨rfl, fun y hy => ?_⟩, rfl, rfl, fun _ => ?_⟩
      · rw [St.set_loc, if_neg (fun q => by rw [q] at hy; revert hy; decide)]; exact hll y hy
      · refine AE_sub (by intro _ _; rfl) ?_
        refine AE_subN (by intro _ _; rfl) ?_
        refine AE_name okc (V := .lst (ws.map Wk.v)) (loc_miss (by decide) ((hll _ (by rfl)).trans (by walk_at "loc"))) ?_
        refine AE_name okc loc_hit ?_
        refine ⟨k, _, _, rfl, .lst, by omega, wk_get (by omega), ?_⟩
        refine AE_int ?_
        refine ⟨0, .int (hrOf ws k), rfl, .inr ⟨_, 0, rfl, by decide, by decide, rfl, rfl⟩, rfl, ?_⟩
        show _ = Val.int (hrOf ws (k : Int).toNat)
        rw [Int.toNat_natCast]
    refine .frozen ?_
    rw [List.filter_eq_self.mpr (by simp), show List.map (fun V => Val.int (hrOf ws V.toInt.toNat)) (nv (insideOf (i + 1))) = ((insideOf (i + 1)).map (hrOf ws)).map Val.int from by rw [nv_eq, List.map_map, List.map_map]; rfl]
    refine AEs_nil ?_
    refine BC_sum ok .lst ?_
    rw [show ((insideOf (i + 1)).map (hrOf ws)).sum = tot (insideOf (i + 1)) (hrOf ws) from rfl]
    refine AG_name ok (Writes_fn hX (by decide) (by decide +kernel)) ?_
    refine AS_cons ?_
    walk_at "asn"
    refine AE_list ?_
    refine AEs_nil ⟨by simp, .tracked fun TA hTA => ?_⟩
    refine AG_name ok (Writes_fn hX (by decide) (by decide +kernel)) ?_
    have hTA0 : σ2.mem TA = none := hTA
    have hDT : D ≠ TA := fun q => by rw [← q, hm] at hTA0; cases hTA0
    have hlenk : kvs.length ≤ 64 := by have := hok.1; omega
    refine AS_cons ?_
    refine Mine.T.mono (P := fun fl σ' => fl = .next ∧ ToI ws kvs (i + 1) σ D TA (insideOf (i + 1)).length σ') ?_ ?_
    · refine AX_for ok (by intro _; rfl) ?_
      refine AI_list (.inl ⟨_, _, rfl⟩) ?_
      walk_at "name"
      refine ⟨_, .lst, ?_⟩
      refine ForL_inv (ToI ws kvs (i + 1) σ D TA) ?_ (fun σ' hI => ⟨rfl, by rw [List.length_map, zs_len] at hI; exact hI⟩) ⟨mem_set mem_hit, mem_set (mem_miss hDT hm), by walk_at "loc", by walk_at "loc", by walk_at "loc", by walk_at "loc", by walk_at "loc", by walk_at "loc", fun a bx e => mem_set (mem_miss (fun q => by have := hfr a bx e; rw [q, hTA0] at this; cases this) (hfr a bx e))⟩
      intro j σa V hV hI
      obtain ⟨q1, q2, q3, q4, q5, q6, q7, q8, q9⟩ := hI
      have hj : j < (insideOf (i + 1)).length := by simpa [zs_len] using (List.getElem?_eq_some_iff.mp hV).1
      obtain ⟨k, hk⟩ : ∃ k, (insideOf (i + 1))[j]? = some k := ⟨_, List.getElem?_eq_getElem hj⟩
      obtain rfl : V = .int (k : Int) := by
        rw [nv_eq, List.getElem?_map, hk] at hV
        simpa using hV.symm
      have hkm := List.mem_of_getElem? hk
      have hk6 := hin6 k hkm
      obtain ⟨c1, c2, c3⟩ := inside_cut (i + 1) (by omega) k hk6 hkm
      have etake : toldOf ws kvs (i + 1) ((insideOf (i + 1)).take (j + 1)) = toldOf ws kvs (i + 1) ((insideOf (i + 1)).take j) ++ toldOf ws kvs (i + 1) [k] := by
        unfold toldOf
        rw [List.take_add_one, hk, List.filterMap_append]; rfl
      have epow : ((i + 1 : Nat) : Int) - 2 ^ (k : Int).toNat = ((i + 1 - 2 ^ k : Nat) : Int) := by
        rw [Int.toNat_natCast]
        have : ((2 : Int) ^ k) = ((2 ^ k : Nat) : Int) := by norm_cast
        rw [this]; omega
      have htl : (toldOf ws kvs (i + 1) ((insideOf (i + 1)).take j)).length ≤ 6 := by
        unfold toldOf
        have h1 := List.length_filterMap_le (fun k => if ovOf ws k < 0 ∨ ovOf ws k ∈ zs (insideOf (i + 1)) then (match kvs.lookup ((i + 1 - 2 ^ k : Nat) : Int) with | some (.int v) => some (v + coOf ws k * tot (insideOf (i + 1)) (hrOf ws)) | _ => none) else none) ((insideOf (i + 1)).take j)
        have h2 : ((insideOf (i + 1)).take j).length ≤ 6 := by rw [List.length_take]; omega
        exact Nat.le_trans h1 h2
      refine AG_name ok (Writes_fn hX (by decide) (by decide +kernel)) ?_
      refine AS_cons ?_
      walk_at "asn"
      refine AE_subN (by intro _ _; rfl) ?_
      walk_at "name"
      walk_at "name"
      refine ⟨k, _, _, rfl, .lst, by omega, wk_get (by omega), ?_⟩
      refine AG_tuple ok (by intro t ht e p q; simp at ht; rcases ht with rfl | rfl | rfl <;> cases q) rfl ?_
      show AG _ _ _ _ _
      refine AG_name ok (Writes_fn hX (by decide) (by decide +kernel)) ?_
      show AG _ _ _ _ _
      refine AG_name ok (Writes_fn hX (by decide) (by decide +kernel)) ?_
      show AG _ _ _ _ _
      refine AG_name ok (Writes_fn hX (by decide) (by decide +kernel)) ?_
      show AS _ _ _ _
      refine AS_cons ?_
      refine AX_ifd ((kvs.lookup ((i + 1 - 2 ^ k : Nat) : Int)).isSome = true ∧ (ovOf ws k < 0 ∨ ovOf ws k ∈ zs (insideOf (i + 1)))) ?_ ?_ ?_
      · refine AT_and ?_
        refine AT_cmp rfl ?_
        refine AE_bin ?_
        walk_at "name"
        refine AE_bin ?_
        refine AE_int ?_
        walk_at "name"
        refine Op_pow (by omega) (by omega) (by decide) ?_
        refine Op_sub ?_
        walk_at "name"
        refine Cmp_inD (kvs := kvs) q2 hsys ?_
        rw [epow]
        refine ⟨fun hc => ?_, fun hc => ⟨rfl, ?_⟩⟩
        · refine AT_or ?_
          refine AT_cmp rfl ?_
          walk_at "name"
          refine AE_int ?_
          refine Cmp_lt ?_
          refine ⟨fun h1 => ⟨rfl, ?_⟩, fun h1 => ?_⟩
          · have h1' := of_decide_eq_true h1
            simp [hc, h1']
          · refine AT_cmp rfl ?_
            walk_at "name"
            walk_at "name"
            refine Cmp_in .lst ?_
            refine ⟨rfl, ?_⟩
            have h1' := of_decide_eq_false h1
            simp [hc, h1']
        · simp [hc]
      · rintro ⟨c4, c5⟩
        obtain ⟨V, hV⟩ := Option.isSome_iff_exists.mp c4
        obtain ⟨v, rfl, _⟩ := ((hok.2 (i + 1 - 2 ^ k) (by omega)).1 (by omega)).1 V hV
        have e1 : toldOf ws kvs (i + 1) [k] = [v + coOf ws k * tot (insideOf (i + 1)) (hrOf ws)] := by
          unfold toldOf
          rw [List.filterMap_cons, if_pos c5, hV]; rfl
        refine AS_cons ?_
        refine AX_expr (by rw [← hX]; rfl) (by with_unfolding_all rfl) ?_
        refine AE_append ?_ (by rfl) (by with_unfolding_all rfl)
        walk_at "name"
        refine ⟨TA, _, rfl, q1, ?_⟩
        refine AE_bin ?_
        refine AE_subD (by intro _ _; rfl) ?_
        walk_at "name"
        refine AE_bin ?_
        walk_at "name"
        refine AE_bin ?_
        refine AE_int ?_
        walk_at "name"
        refine Op_pow (by omega) (by omega) (by decide) ?_
        refine Op_sub ?_
        rw [epow]
        refine ⟨D, kvs, _, _, rfl, rfl, q2, hV, ?_⟩
        refine AE_bin ?_
        walk_at "name"
        walk_at "name"
        refine Op_mul (.of_right ?_) ?_
        · have := tot_bound hhr (insideOf (i + 1))
          exact intBits_le_64 (by omega) (by omega)
        refine Op_add ?_
        refine ⟨_, q1, by rw [List.length_map]; omega, ?_⟩
        refine AS_nil ?_
        refine AS_nil ?_
        refine ⟨.inl rfl, .lst, ?_, mem_miss hDT q2, by walk_at "loc", by walk_at "loc", by walk_at "loc", by walk_at "loc", by walk_at "loc", by walk_at "loc", fun a bx e => mem_miss (fun q => by have := hfr a bx e; rw [q, hTA0] at this; cases this) (q9 a bx e)⟩
        rw [etake, e1, List.map_append]
        exact mem_hit
      · intro hc
        have e1 : toldOf ws kvs (i + 1) [k] = [] := by
          unfold toldOf
          rw [List.filterMap_cons, List.filterMap_nil]
          split
          · rfl
          · rename_i z hz
            exfalso
            split at hz
            · rename_i c5
              cases hlk : kvs.lookup ((i + 1 - 2 ^ k : Nat) : Int) with
              | none => rw [hlk] at hz; cases hz
              | some V => exact hc ⟨by rw [hlk]; rfl, c5⟩
            · cases hz
        refine AS_nil ?_
        refine AS_nil ?_
        refine ⟨.inl rfl, .lst, ?_, q2, by walk_at "loc", by walk_at "loc", by walk_at "loc", by walk_at "loc", by walk_at "loc", by walk_at "loc", q9⟩
        rw [etake, e1, List.append_nil]
        exact q1
    · rintro fl σa ⟨rfl, q1, q2, q3, q4, q5, q6, q7, q8, q9⟩
      rw [List.take_length] at q1
      have hpp : ∀ k i, parOf ws k = some i → i ≠ k := fun k i hi => by
        unfold parOf at hi
        by_cases hk : k < 6
        · have := hov k hk
          split at hi
          · cases hi
          · cases hi; omega
        · have : ovOf ws k = -1 := by unfold ovOf; rw [List.getD_eq_getElem?_getD, List.getElem?_eq_none (by omega)]; rfl
          rw [this] at hi
          simp at hi
      have hst := dok_step hpp (m := i + 1) (by omega) (by omega) hok
      refine AS_cons ?_
      refine AX_ifd (toldOf ws kvs (i + 1) (insideOf (i + 1)) ≠ []) ?_ ?_ ?_
      · refine AT_cmp rfl ?_
        walk_at "name"
        refine AE_list ?_
        refine AEs_nil ⟨by simp, .frozen ?_⟩
        refine Cmp_neD ok (View.ref q1) View.self (pureInts _) (pureV_lst.mpr (by simp)) fun b hb => ⟨rfl, ?_⟩
        rw [Bool.eq_iff_iff, hb]
        simp
      · intro hne
        refine AS_cons ?_
        walk_at "asn"
        refine AE_builtin ok (BName_fn hX F.min (by decide) (by decide) (by rfl) (by rfl)) (by rfl) (by rfl) ?_
        refine AEs_cons (by rfl) ?_
        walk_at "name"
        refine AEs_nil ?_
        refine BC_min ok (.ref q1) hne ?_
        refine AG_itemD ?_
        walk_at "name"
        walk_at "name"
        refine ⟨D, kvs, _, rfl, rfl, q2, by omega, ?_⟩
        refine AS_nil ?_
        refine AS_nil ?_
        refine ⟨.inl rfl, trivial, ⟨_, mem_hit, hst.1 hne⟩, by walk_at "loc", by walk_at "loc", fun a bx e => mem_miss (fun q => by rw [q, hD0] at e; cases e) (q9 a bx e)⟩
      · intro hne
        have hne' : toldOf ws kvs (i + 1) (insideOf (i + 1)) = [] := Decidable.not_not.mp hne
        refine AS_nil ?_
        refine AS_nil ?_
        exact ⟨.inl rfl, trivial, ⟨_, q2, hst.2 hne'⟩, q4, q5, q9⟩
  · rintro fl σ2 ⟨rfl, ⟨kvs, hm, hok⟩, e1, e2, hfr⟩
    obtain ⟨v, hv, hle⟩ := dok_end hov hok
    refine AS_cons ?_
    refine AX_ret ?_
    refine AE_subD (by intro _ _; rfl) ?_
    walk_at "name"
    refine AE_bin ?_
    refine AE_bin ?_
    refine AE_int ?_
    refine AE_builtin ok (BName_fn hX F.len (by decide) (by decide) (by rfl) (by rfl)) (by rfl) (by rfl) ?_
    refine AEs_cons (by rfl) ?_
    walk_at "name"
    refine AEs_nil ?_
    refine BC_len .lst (by simp [hl]) ?_
    rw [List.length_map, hl]
    refine Op_pow (by decide) (by decide) (by decide) ?_
    refine AE_int ?_
    refine Op_sub ?_
    refine ⟨D, kvs, 63, .int v, rfl, rfl, hm, hv, ?_⟩
    rw [back_same (σ := σ) fun b hb => ?_]
    · exact h v hle
    · obtain ⟨bx, e⟩ := Option.isSome_iff_exists.mp hb
      rw [e]; exact hfr b bx e
end Mine
end
section
open PySem PySem.W PyProof.Rows PySem.Calls
set_option maxRecDepth 100000
namespace Mine
local macro_rules | `(tactic| walk_at "loc") => `(tactic| first | assumption | with_reducible exact loc_hit | (with_reducible refine loc_put ?_; walk_at "loc") | (with_reducible refine loc_miss ?_ ?_; (· decide); walk_at "loc") | rfl)
local macro_rules | `(tactic| walk_at "ne") => `(tactic| first | assumption | (refine Ne.symm ?_; assumption))
local macro_rules | `(tactic| walk_at "mem") => `(tactic| first | assumption | with_reducible exact mem_hit | (with_reducible refine mem_set ?_; walk_at "mem") | (with_reducible refine mem_miss ?_ ?_; (· walk_at "ne"); walk_at "mem") | rfl)
local macro_rules | `(tactic| walk_at "name") => `(tactic| refine AE_name ‹Cx.Ok _ _› (by walk_at "loc") ?_)
local macro_rules | `(tactic| walk_at "asn") => `(tactic| refine AX_assign (by with_unfolding_all rfl) (by with_unfolding_all rfl) (by with_unfolding_all rfl) ?_)

structure Fns5 (B : Base) : Prop where
  pop : ∃ fa fd o, FnAt B (Str.ofString "_heappop_max") [Str.ofString "heap"] (d5 1).body (d5 1).scope fa fd o
  down : ∃ fa fd o, FnAt B (Str.ofString "_siftdown_max") [Str.ofString "heap", Str.ofString "startpos", Str.ofString "pos"] (d5 2).body (d5 2).scope fa fd o
  up : ∃ fa fd o, FnAt B (Str.ofString "_siftup_max") [Str.ofString "heap", Str.ofString "pos"] (d5 3).body (d5 3).scope fa fd o
  least : ∃ fa fd o, FnAt B (Str.ofString "_law_least") [Str.ofString "works"] (d5 5).body (d5 5).scope fa fd o

/-- the works are written -/
structure WkI (ns : List Int) (WA : Addr) (i : Nat) (σ : St) : Prop where
  st : ∃ ws : List Wk, ws.length = i ∧ (∀ k, 1 ≤ hrOf ws k ∧ hrOf ws k ≤ 3) ∧ (∀ k, k < i → ovOf ws k < (k : Int)) ∧ σ.mem WA = some (.list (ws.map Wk.v))
  works : σ.loc (Str.ofString "works") = some (.ref WA)
  script : σ.loc (Str.ofString "script") = some (.lst (ns.map Val.int))

/-- the heap is made -/
structure H5I (ws : List Wk) (EA : Addr) (σ₀ : St) (i : Nat) (σ : St) : Prop where
  st : ∃ H : List El, σ.mem EA = some (.list (H.map tv)) ∧ HF H 0 ∧ H.Perm ((List.range i).map fun k => [coOf ws k * (12252240 : Int).fdiv (hrOf ws k), -(k : Int)])
  frame : ∀ a bx, a ≠ EA → σ₀.mem a = some bx → σ.mem a = some bx
  loc : ∀ x V, x ≠ Str.ofString "k" → σ₀.loc x = some V → σ.loc x = some V

/-- between two turns -/
structure LwI (ws : List Wk) (BA LA HA CA EA RA : Addr) (m : Nat) (σ : St) : Prop where
  st : ∃ (bl : Nat → List Nat) (course : List Nat) (H : List El) (lies hrs cos : List Int) (ts : List Addr), Hq ws bl course H lies hrs cos ∧ m = H.length + 2 * cnt bl ∧ m ≤ 18 ∧ ts.length = 6 ∧
    (∀ (a b : Nat) t, ts[a]? = some t → ts[b]? = some t → a = b) ∧ (∀ t ∈ ts, t ≠ BA ∧ t ≠ LA ∧ t ≠ HA ∧ t ≠ CA ∧ t ≠ EA ∧ t ≠ RA) ∧
    σ.mem BA = some (.list (ts.map Val.ref)) ∧ (∀ (b : Nat) t, ts[b]? = some t → σ.mem t = some (.list (nv (bl b)))) ∧
    σ.mem LA = some (.list (lies.map Val.int)) ∧ σ.mem HA = some (.list (hrs.map Val.int)) ∧ σ.mem CA = some (.list (cos.map Val.int)) ∧ σ.mem EA = some (.list (H.map tv)) ∧ σ.mem RA = some (.list (nv course))
  works : σ.loc (Str.ofString "works") = some (.lst (ws.map Wk.v))
  blocks : σ.loc (Str.ofString "blocks") = some (.ref BA)
  lies : σ.loc (Str.ofString "lies") = some (.ref LA)
  hours : σ.loc (Str.ofString "hours") = some (.ref HA)
  costs : σ.loc (Str.ofString "costs") = some (.ref CA)
  heap : σ.loc (Str.ofString "heap") = some (.ref EA)
  course : σ.loc (Str.ofString "course") = some (.ref RA)

/-- within a turn -/
structure MdI (ws : List Wk) (BA LA HA CA EA RA : Addr) (ts : List Addr) (lies : List Int) (k : Nat) (into : Int) (m : Nat) (σ : St) : Prop where
  st : ∃ (bl1 : Nat → List Nat) (course1 : List Nat) (H1 : List El) (hrs1 cos1 : List Int), Hq ws (fun b => if b = k then [] else bl1 b) course1 H1 (setAll lies (bl1 k) into) hrs1 cos1 ∧ (∀ j ∈ bl1 k, j < 6) ∧
    H1.length + 2 * cnt (fun b => if b = k then [] else bl1 b) < m ∧ σ.mem BA = some (.list (ts.map Val.ref)) ∧ (∀ (b : Nat) t, ts[b]? = some t → σ.mem t = some (.list (nv (bl1 b)))) ∧
    σ.mem LA = some (.list (lies.map Val.int)) ∧ σ.mem HA = some (.list (hrs1.map Val.int)) ∧ σ.mem CA = some (.list (cos1.map Val.int)) ∧ σ.mem EA = some (.list (H1.map tv)) ∧ σ.mem RA = some (.list (nv course1))
  works : σ.loc (Str.ofString "works") = some (.lst (ws.map Wk.v))
  blocks : σ.loc (Str.ofString "blocks") = some (.ref BA)
  lies : σ.loc (Str.ofString "lies") = some (.ref LA)
  hours : σ.loc (Str.ofString "hours") = some (.ref HA)
  costs : σ.loc (Str.ofString "costs") = some (.ref CA)
  heap : σ.loc (Str.ofString "heap") = some (.ref EA)
  course : σ.loc (Str.ofString "course") = some (.ref RA)
  kv : σ.loc (Str.ofString "k") = some (.int (k : Int))
  into : σ.loc (Str.ofString "into") = some (.int into)

/-- a block's works are told where they lie -/
structure FoI (σ₀ : St) (LA : Addr) (lies : List Int) (js : List Nat) (into : Int) (i : Nat) (σ : St) : Prop where
  mem : σ.mem LA = some (.list ((setAll lies (js.take i) into).map Val.int))
  frame : ∀ a bx, a ≠ LA → σ₀.mem a = some bx → σ.mem a = some bx
  loc : ∀ x V, x ≠ Str.ofString "work" → σ₀.loc x = some V → σ.loc x = some V

/-- the course is told -/
structure EnI (ws : List Wk) (RA : Addr) (course : List Nat) (i : Nat) (σ : St) : Prop where
  mem : σ.mem RA = some (.list (nv course))
  works : σ.loc (Str.ofString "works") = some (.lst (ws.map Wk.v))
  courseV : σ.loc (Str.ofString "course") = some (.ref RA)
  clock : σ.loc (Str.ofString "clock") = some (.int (tot (course.take i) (hrOf ws)))
  cost : σ.loc (Str.ofString "cost") = some (.int (Fc (hrOf ws) (coOf ws) 0 (course.take i)))

/-- at the end -/
structure LwE (ws : List Wk) (RA : Addr) (fl : Fl) (σ : St) : Prop where
  fl : fl = .next
  st : ∃ course : List Nat, σ.mem RA = some (.list (nv course)) ∧ course.Perm (List.range 6) ∧ OrdIn (parOf ws) [] course ∧ ∀ s : List Nat, s.Perm (List.range 6) → OrdIn (parOf ws) [] s → Fc (hrOf ws) (coOf ws) 0 course ≤ Fc (hrOf ws) (coOf ws) 0 s
  works : σ.loc (Str.ofString "works") = some (.lst (ws.map Wk.v))
  course : σ.loc (Str.ofString "course") = some (.ref RA)

theorem ne_of_mem {σ : St} {a b : Addr} {bx : Box} (h2 : σ.mem b = none) (h1 : σ.mem a = some bx) : a ≠ b := fun q => by rw [q, h2] at h1; cases h1
theorem fdiv_bits : ∀ r : Nat, r ≤ 18 → 1 ≤ r → Builtin.Int.intBits ((12252240 : Int).fdiv r) ≤ 64 := by decide +kernel
def wkAt (i : Nat) : Val → Int
  | .tup vs => (vs.getD i .none).toInt
  | _ => 0
theorem wkAt_hr (ws : List Wk) (hl : ws.length = 6) : (ws.map Wk.v).map (fun V => Val.int (wkAt 0 V)) = ((List.range 6).map (hrOf ws)).map Val.int ∧ (ws.map Wk.v).map (fun V => Val.int (wkAt 2 V)) = ((List.range 6).map (coOf ws)).map Val.int := by
  match ws, hl with
  | [a, b, c, d, e, f], _ => exact ⟨rfl, rfl⟩
theorem wk_snoc (ws : List Wk) (w : Wk) (k : Nat) : (ws ++ [w]).getD k ⟨1, -1, 0⟩ = if k = ws.length then w else ws.getD k ⟨1, -1, 0⟩ := by
  rw [List.getD_eq_getElem?_getD, List.getD_eq_getElem?_getD]
  rcases Nat.lt_trichotomy k ws.length with h | h | h
  · rw [List.getElem?_append_left h, if_neg (by omega)]
  · subst h; simp
  · rw [List.getElem?_eq_none (by simp; omega), List.getElem?_eq_none (by omega), if_neg (by omega)]

set_option maxHeartbeats 8000000 in
theorem law_walk5 {B : Base} {n : Nat} {ns : List Int} (F : Free5 B) (N : Fns5 B) (hns : ns.length ≤ 63) :
    CallD B (n + 3) [Str.ofString "script"] (d5 6).body (d5 6).scope [.lst (ns.map Val.int)] noSt (fun V _ => V = .bool true) := by
  intro A L qual fa code ok
  generalize hX : (⟨B, A, fnFm L qual fa code (d5 6).scope, (d5 6).scope⟩ : Cx) = X at ok ⊢
  have hB : X.B = B := by rw [← hX]
  obtain ⟨fa1, fd1, o1, N1⟩ := N.pop
  obtain ⟨fa2, fd2, o2, N2⟩ := N.down
  obtain ⟨fa3, fd3, o3, N3⟩ := N.up
  obtain ⟨fa5, fd5, o5, N5⟩ := N.least
  conv => arg 2; whnf
  refine AS_cons ?_
  walk_at "asn"
  refine AE_list ?_
  refine AEs_nil ⟨by simp, .tracked fun WA hWA => ?_⟩
  refine AG_name ok (Writes_fn hX (by decide) (by decide +kernel)) ?_
  refine AS_cons ?_
  refine Mine.T.mono (P := fun fl σ2 => fl = .next ∧ WkI ns WA 6 σ2) ?_ ?_
  · refine AX_for ok (by intro _; rfl) ?_
    refine AI_enum ok ⟨_, _, _, rfl⟩ (BName_fn hX F.enumerate (by decide) (by decide) (by rfl) (by rfl)) (by rfl) ?_
    refine AE_list ?_
    refine AEs_cons (by rfl) ?_
    refine AE_int ?_
    refine AEs_cons (by rfl) ?_
    refine AE_int ?_
    refine AEs_cons (by rfl) ?_
    refine AE_int ?_
    refine AEs_cons (by rfl) ?_
    refine AE_int ?_
    refine AEs_cons (by rfl) ?_
    refine AE_int ?_
    refine AEs_cons (by rfl) ?_
    refine AE_neg ?_
    refine AE_int ?_
    refine ⟨_, rfl, ?_⟩
    refine AEs_nil ⟨by simp, .frozen ?_⟩
    refine ⟨_, .lst, ?_⟩
    refine ForL_inv (WkI ns WA) ?_ (fun σ h => ⟨rfl, h⟩) ⟨⟨[], rfl, by unfold hrOf; simp, fun k hk => by omega, mem_set mem_hit⟩, by walk_at "loc", by walk_at "loc"⟩
    intro k σ2 V hV hI
    obtain ⟨⟨ws, hwl, hwh, hwo, hwm⟩, e1, e2⟩ := hI
    obtain ⟨own, rfl, hk6⟩ : ∃ own : Int, V = .tup [.int (k : Int), .int own] ∧ k < 6 := by
      have hk : k < 6 := by simpa using (List.getElem?_eq_some_iff.mp hV).1
      rcases (show k = 0 ∨ k = 1 ∨ k = 2 ∨ k = 3 ∨ k = 4 ∨ k = 5 by omega) with rfl | rfl | rfl | rfl | rfl | rfl <;>
        exact ⟨_, (by simpa using hV.symm), by decide⟩
    refine AG_tuple ok (by intro t ht e p q; simp at ht; rcases ht with rfl | rfl <;> cases q) rfl ?_
    show AG _ _ _ _ _
    refine AG_name ok (Writes_fn hX (by decide) (by decide +kernel)) ?_
    show AG _ _ _ _ _
    refine AG_name ok (Writes_fn hX (by decide) (by decide +kernel)) ?_
    show AS _ _ _ _
    refine AS_cons ?_
    walk_at "asn"
    refine AE_bin ?_
    walk_at "name"
    refine AE_builtin ok (BName_fn hX F.sum (by decide) (by decide) (by rfl) (by rfl)) (by rfl) (by rfl) ?_
    refine AEs_cons (by rfl) ?_
    refine AE_slice (by intro _ _; exact ⟨_, rfl⟩) ?_
    walk_at "name"
    show AE _ _ _ _
    walk_at "name"
    refine ⟨_, rfl, ?_⟩
    show AE _ _ _ _
    refine AE_int ?_
    refine ⟨_, rfl, ?_⟩
    refine ⟨_, .lst, by simp; omega, by decide, .frozen ?_⟩
    rw [pick_ints]
    refine AEs_nil ?_
    refine BC_sum ok .lst ?_
    refine Op_add ?_
    generalize own + (List.map Val.toInt (pickV (List.map Val.int ns) (some (k : Int)) none (some 6))).sum = x
    refine AG_name ok (Writes_fn hX (by decide) (by decide +kernel)) ?_
    refine AS_cons ?_
    refine AX_expr (by rw [← hX]; rfl) (by with_unfolding_all rfl) ?_
    refine AE_append ?_ (by rfl) (by with_unfolding_all rfl)
    walk_at "name"
    refine ⟨WA, _, rfl, hwm, ?_⟩
    refine AE_tuple ?_
    refine AEs_cons (by rfl) ?_
    refine AE_bin ?_
    refine AE_bin ?_
    walk_at "name"
    refine AE_int ?_
    refine Op_mod (by decide) ?_
    refine AE_int ?_
    refine Op_add ?_
    refine AEs_cons (by rfl) ?_
    refine AE_bin ?_
    refine AE_bin ?_
    refine AE_bin ?_
    walk_at "name"
    refine AE_int ?_
    refine Op_div (by decide) (PyProof.noPylong_small (by decide)) ?_
    refine AE_bin ?_
    walk_at "name"
    refine AE_int ?_
    refine Op_add ?_
    refine Op_mod (by omega) ?_
    refine AE_int ?_
    refine Op_sub ?_
    refine AEs_cons (by rfl) ?_
    refine AE_bin ?_
    walk_at "name"
    refine AE_bin ?_
    refine AE_bin ?_
    refine AE_int ?_
    walk_at "name"
    refine Op_mul (.of_left (by decide)) ?_
    refine AE_int ?_
    refine Op_add ?_
    refine Op_div (by omega) (PyProof.noPylong_small (by omega)) ?_
    refine AEs_nil ⟨by simp, ?_⟩
    refine ⟨_, hwm, by simp; omega, ?_⟩
    refine AS_nil ?_
    have f1 := Int.fmod_nonneg_of_pos x (show (0 : Int) < 3 by decide)
    have f2 := Int.fmod_lt_of_pos x (show (0 : Int) < 3 by decide)
    have f3 := Int.fmod_lt_of_pos (x.fdiv 3) (show (0 : Int) < (k : Int) + 1 by omega)
    refine ⟨.inl rfl, .lst, ⟨ws ++ [⟨x.fmod 3 + 1, (x.fdiv 3).fmod ((k : Int) + 1) - 1, x.fdiv (3 * (k : Int) + 3)⟩], by simp [hwl], fun j => ?_, fun j hj => ?_, ?_⟩, by walk_at "loc", by walk_at "loc"⟩
    · unfold hrOf
      rw [wk_snoc]
      split
      · exact ⟨by simp only; omega, by simp only; omega⟩
      · exact hwh j
    · unfold ovOf
      rw [wk_snoc]
      split
      · rename_i q
        have : j = k := by omega
        subst this
        simp only; omega
      · exact hwo j (by omega)
    · rw [List.map_append]; exact mem_hit
  rintro fl σ2 ⟨rfl, ⟨ws, hwl, hwh, hwo, hwm⟩, e1, e2⟩
  refine AS_freeze1 e1 hwm ?_
  generalize hσ : (St.set (St.drop σ2 WA) _ _) = σ3
  have w1 : σ3.loc (Str.ofString "works") = some (.lst (ws.map Wk.v)) := by rw [← hσ]; walk_at "loc"
  clear hσ hwm e1 e2 hWA
  refine AS_cons ?_
  refine AX_assign_comp ok (CompOk_fn hX rfl (by decide) (by decide +kernel)) (by intro _; rfl) (by rw [← hX]; with_unfolding_all rfl) (Writes_fn hX (by decide) (by decide +kernel)) ?_
  refine AI_range1 ok ⟨_, _, rfl⟩ (BName_fn hX F.range (by decide) (by decide) (by rfl) (by rfl)) (by rfl) ?_
  refine AE_int ?_
  refine ⟨_, rfl, small_1 (by omega) (by omega) (by omega) (by omega), ?_⟩
  rw [show rangeL 0 6 1 = rangeL 0 ((6 : Nat) : Int) 1 from rfl, rangeV]
  refine CompK_refs (fun V => [V]) (by decide) (fun _ _ => trivial) ?_ ?_
  · intro C σ3 V okc hVm hmm hll
    refine AG_name okc (Writes_comp ok (by decide) (by rfl)) ?_
    refine ⟨⟨rfl, fun y hy => ?_⟩, ?_⟩
    · rw [St.set_loc, if_neg (fun q => by rw [q] at hy; revert hy; decide)]; exact hll y hy
    · refine AE_list ?_
      refine AEs_cons (by rfl) ?_
      refine AE_name okc loc_hit ?_
      refine AEs_nil ⟨by simp, .tracked fun t ht => ⟨t, rfl, ht, rfl⟩⟩
  intro BA ts σ4 hBA hlen hnd hDt ht2 eloc hsub hmB hts
  have hlen6 : ts.length = 6 := by rw [hlen]; rfl
  have w2 : σ4.loc (Str.ofString "works") = some (.lst (ws.map Wk.v)) := by rw [eloc]; exact w1
  have hts' : ∀ (b : Nat) t, ts[b]? = some t → σ4.mem t = some (.list (nv (if b < 6 then [b] else []))) := fun b t ht => by
    have hb : b < 6 := by have := (List.getElem?_eq_some_iff.mp ht).1; omega
    have := hts b t _ ht (by rw [nv_eq, List.getElem?_map, List.getElem?_range hb]; rfl)
    rw [this, if_pos hb]; rfl
  clear hts ht2 hsub w1 eloc
  refine AS_cons ?_
  walk_at "asn"
  refine AE_list ?_
  refine AEs_cons (by rfl) ?_
  refine AE_int ?_
  refine AEs_cons (by rfl) ?_
  refine AE_int ?_
  refine AEs_cons (by rfl) ?_
  refine AE_int ?_
  refine AEs_cons (by rfl) ?_
  refine AE_int ?_
  refine AEs_cons (by rfl) ?_
  refine AE_int ?_
  refine AEs_cons (by rfl) ?_
  refine AE_int ?_
  refine AEs_nil ⟨by simp, .tracked fun LA hLA => ?_⟩
  refine AG_name ok (Writes_fn hX (by decide) (by decide +kernel)) ?_
  have comp0 : True := trivial
  refine AS_cons ?_
  refine AX_assign_comp ok (CompOk_fn hX rfl (by decide) (by decide +kernel)) (by intro _; rfl) (by rw [← hX]; with_unfolding_all rfl) (Writes_fn hX (by decide) (by decide +kernel)) ?_
  refine AI_list (.inl ⟨_, _, rfl⟩) ?_
  walk_at "name"
  refine ⟨_, .lst, ?_⟩
  refine CompK_pure (fun _ => true) (fun V => .int (wkAt 0 V)) (by simp; omega) (fun _ _ => .lst) ?_ ?_
  · intro C σ3 V okc hVm hmm hll
    obtain ⟨w, hw, rfl⟩ := List.mem_map.mp hVm
    refine AG_name okc (Writes_comp ok (by decide) (by rfl)) ?_
    refine ⟨⟨rfl, fun y hy => ?_⟩, rfl, rfl, fun _ => ?_⟩
    · rw [St.set_loc, if_neg (fun q => by rw [q] at hy; revert hy; decide)]; exact hll y hy
    · refine AE_sub (by intro _ _; rfl) ?_
      refine AE_name okc loc_hit ?_
      refine AE_int ?_
      exact ⟨0, .int w.hr, rfl, .inr ⟨_, 0, rfl, by decide, by decide, rfl, rfl⟩, rfl, rfl⟩
  refine .tracked fun HA hHA => ?_
  refine AS_cons ?_
  refine AX_assign_comp ok (CompOk_fn hX rfl (by decide) (by decide +kernel)) (by intro _; rfl) (by rw [← hX]; with_unfolding_all rfl) (Writes_fn hX (by decide) (by decide +kernel)) ?_
  refine AI_list (.inl ⟨_, _, rfl⟩) ?_
  walk_at "name"
  refine ⟨_, .lst, ?_⟩
  refine CompK_pure (fun _ => true) (fun V => .int (wkAt 2 V)) (by simp; omega) (fun _ _ => .lst) ?_ ?_
  · intro C σ3 V okc hVm hmm hll
    obtain ⟨w, hw, rfl⟩ := List.mem_map.mp hVm
    refine AG_name okc (Writes_comp ok (by decide) (by rfl)) ?_
    refine ⟨⟨rfl, fun y hy => ?_⟩, rfl, rfl, fun _ => ?_⟩
    · rw [St.set_loc, if_neg (fun q => by rw [q] at hy; revert hy; decide)]; exact hll y hy
    · refine AE_sub (by intro _ _; rfl) ?_
      refine AE_name okc loc_hit ?_
      refine AE_int ?_
      exact ⟨2, .int w.co, rfl, .inr ⟨_, 2, rfl, by decide, by decide, rfl, rfl⟩, rfl, rfl⟩
  refine .tracked fun CA hCA => ?_
  refine AS_cons ?_
  refine AX_swap2 ok (by rw [← hX]; with_unfolding_all rfl) (by rw [← hX]; with_unfolding_all rfl) (Writes_fn hX (by decide) (by decide +kernel)) (Writes_fn hX (by decide) (by decide +kernel)) ?_
  refine AE_tuple ?_
  refine AEs_cons (by rfl) ?_
  refine AE_list ?_
  refine AEs_nil ⟨by simp, .tracked fun EA hEA => ?_⟩
  refine AEs_cons (by rfl) ?_
  refine AE_list ?_
  refine AEs_nil ⟨by simp, .tracked fun RA hRA => ?_⟩
  refine AEs_nil ⟨by simp, ?_⟩
  refine ⟨_, _, rfl, ?_⟩
  rw [List.filter_eq_self.mpr (by simp), (wkAt_hr ws hwl).1] at hCA hEA hRA ⊢
  rw [(wkAt_hr ws hwl).2] at hEA hRA ⊢
  have nBL : BA ≠ LA := ne_of_mem hLA (by walk_at "mem")
  have nBH : BA ≠ HA := ne_of_mem hHA (by walk_at "mem")
  have nLH : LA ≠ HA := ne_of_mem hHA (by walk_at "mem")
  have nBC : BA ≠ CA := ne_of_mem hCA (by walk_at "mem")
  have nLC : LA ≠ CA := ne_of_mem hCA (by walk_at "mem")
  have nHC : HA ≠ CA := ne_of_mem hCA (by walk_at "mem")
  have nBE : BA ≠ EA := ne_of_mem hEA (by walk_at "mem")
  have nLE : LA ≠ EA := ne_of_mem hEA (by walk_at "mem")
  have nHE : HA ≠ EA := ne_of_mem hEA (by walk_at "mem")
  have nCE : CA ≠ EA := ne_of_mem hEA (by walk_at "mem")
  have nBR : BA ≠ RA := ne_of_mem hRA (by walk_at "mem")
  have nLR : LA ≠ RA := ne_of_mem hRA (by walk_at "mem")
  have nHR : HA ≠ RA := ne_of_mem hRA (by walk_at "mem")
  have nCR : CA ≠ RA := ne_of_mem hRA (by walk_at "mem")
  have nER : EA ≠ RA := ne_of_mem hRA (by walk_at "mem")
  have tne : ∀ t ∈ ts, t ≠ BA ∧ t ≠ LA ∧ t ≠ HA ∧ t ≠ CA ∧ t ≠ EA ∧ t ≠ RA := fun t ht => by
    obtain ⟨b, hb⟩ := List.mem_iff_getElem?.mp ht
    have hm := hts' b t hb
    have t0 : t ≠ BA := fun q => hDt (q ▸ ht)
    have t1 : t ≠ LA := ne_of_mem hLA (by walk_at "mem")
    have t2 : t ≠ HA := ne_of_mem hHA (by walk_at "mem")
    have t3 : t ≠ CA := ne_of_mem hCA (by walk_at "mem")
    have t4 : t ≠ EA := ne_of_mem hEA (by walk_at "mem")
    have t5 : t ≠ RA := ne_of_mem hRA (by walk_at "mem")
    exact ⟨t0, t1, t2, t3, t4, t5⟩
  generalize hσ : (St.set (St.set (St.put (St.put _ EA _) RA _) _ _) _ _) = σ5
  have m1 : σ5.mem BA = some (.list (ts.map Val.ref)) := by rw [← hσ]; walk_at "mem"
  have m2 : σ5.mem LA = some (.list [Val.int 0, Val.int 1, Val.int 2, Val.int 3, Val.int 4, Val.int 5]) := by rw [← hσ]; walk_at "mem"
  have m3 : σ5.mem HA = some (.list (((List.range 6).map (hrOf ws)).map Val.int)) := by rw [← hσ]; walk_at "mem"
  have m4 : σ5.mem CA = some (.list (((List.range 6).map (coOf ws)).map Val.int)) := by rw [← hσ]; walk_at "mem"
  have m5 : σ5.mem EA = some (.list []) := by rw [← hσ]; walk_at "mem"
  have m6 : σ5.mem RA = some (.list []) := by rw [← hσ]; walk_at "mem"
  have m7 : ∀ (b : Nat) t, ts[b]? = some t → σ5.mem t = some (.list (nv (if b < 6 then [b] else []))) := fun b t hb => by
    obtain ⟨t0, t1, t2, t3, t4, t5⟩ := tne t (List.mem_of_getElem? hb)
    have hm := hts' b t hb
    rw [← hσ]; walk_at "mem"
  have l1 : σ5.loc (Str.ofString "works") = some (.lst (ws.map Wk.v)) := by rw [← hσ]; walk_at "loc"
  have l2 : σ5.loc (Str.ofString "blocks") = some (.ref BA) := by rw [← hσ]; walk_at "loc"
  have l3 : σ5.loc (Str.ofString "lies") = some (.ref LA) := by rw [← hσ]; walk_at "loc"
  have l4 : σ5.loc (Str.ofString "hours") = some (.ref HA) := by rw [← hσ]; walk_at "loc"
  have l5 : σ5.loc (Str.ofString "costs") = some (.ref CA) := by rw [← hσ]; walk_at "loc"
  have l6 : σ5.loc (Str.ofString "heap") = some (.ref EA) := by rw [← hσ]; walk_at "loc"
  have l7 : σ5.loc (Str.ofString "course") = some (.ref RA) := by rw [← hσ]; walk_at "loc"
  clear hσ hLA hHA hCA hEA hRA hts' hmB w2
  refine AS_cons ?_
  refine Mine.T.mono (P := fun fl σ' => fl = .next ∧ H5I ws EA σ5 6 σ') ?_ ?_
  · refine AX_for ok (by intro _; rfl) ?_
    refine AI_range1 ok ⟨_, _, rfl⟩ (BName_fn hX F.range (by decide) (by decide) (by rfl) (by rfl)) (by rfl) ?_
    refine AE_int ?_
    refine ⟨_, rfl, small_1 (by omega) (by omega) (by omega) (by omega), ?_⟩
    rw [show rangeL 0 6 1 = rangeL 0 ((6 : Nat) : Int) 1 from rfl, rangeV]
    refine ForL_inv (H5I ws EA σ5) ?_ (fun σ h => ⟨rfl, h⟩) ⟨⟨[], m5, fun i hi => by simp at hi, .refl _⟩, fun _ _ _ e => e, fun _ _ _ e => e⟩
    intro k σ6 V hV hI
    obtain ⟨⟨H, q1, q2, q3⟩, q4, q5⟩ := hI
    have hk6 : k < 6 := by simpa [zs_len] using (List.getElem?_eq_some_iff.mp hV).1
    obtain rfl : V = .int (k : Int) := by
      rw [nv_eq, List.getElem?_map, List.getElem?_range hk6] at hV
      simpa using hV.symm
    have hHl : H.length = k := by simpa using q3.length_eq
    have g1 := q5 _ _ (by decide) l4
    have g2 := q5 _ _ (by decide) l5
    have g3 := q5 _ _ (by decide) l6
    have g4 := q4 _ _ nHE m3
    have g5 := q4 _ _ nCE m4
    obtain ⟨p, hp, p1, p2⟩ : ∃ p : Nat, hrOf ws k = (p : Int) ∧ 1 ≤ p ∧ p ≤ 18 := ⟨(hrOf ws k).toNat, by have := hwh k; omega, by have := hwh k; omega, by have := hwh k; omega⟩
    refine AG_name ok (Writes_fn hX (by decide) (by decide +kernel)) ?_
    refine AS_cons ?_
    refine AX_expr (by rw [← hX]; rfl) (by with_unfolding_all rfl) ?_
    refine AE_append ?_ (by rfl) (by with_unfolding_all rfl)
    walk_at "name"
    refine ⟨EA, _, rfl, q1, ?_⟩
    refine AE_tuple ?_
    refine AEs_cons (by rfl) ?_
    refine AE_bin ?_
    refine AE_subN (by intro _ _; rfl) ?_
    walk_at "name"
    walk_at "name"
    refine ⟨k, _, .int (coOf ws k), rfl, .ref g5, by omega, by rw [List.getElem?_map, List.getElem?_map, List.getElem?_range hk6]; rfl, ?_⟩
    refine AE_bin ?_
    refine AE_int ?_
    refine AE_subN (by intro _ _; rfl) ?_
    walk_at "name"
    walk_at "name"
    refine ⟨k, _, .int (hrOf ws k), rfl, .ref g4, by omega, by rw [List.getElem?_map, List.getElem?_map, List.getElem?_range hk6]; rfl, ?_⟩
    refine Op_div (by omega) (PyProof.noPylong_small (by omega)) ?_
    refine Op_mul (.of_right (by rw [hp]; exact fdiv_bits p p2 p1)) ?_
    refine AEs_cons (by rfl) ?_
    refine AE_neg ?_
    walk_at "name"
    refine ⟨_, rfl, ?_⟩
    refine AEs_nil ⟨by simp, ?_⟩
    refine ⟨_, q1, by simp; omega, ?_⟩
    rw [show H.map tv ++ [Val.tup [Val.int (coOf ws k * (12252240 : Int).fdiv (hrOf ws k)), Val.int (-(k : Int))]] = (H ++ [[coOf ws k * (12252240 : Int).fdiv (hrOf ws k), -(k : Int)]]).map tv from by simp [tv]]
    refine AS_cons ?_
    refine AX_expr (by rw [← hX]; rfl) (by with_unfolding_all rfl) ?_
    refine AE_call ok (hB ▸ N2) (by rw [← hX]; rfl) (by decide) (by rfl) ?_
    refine AEs_cons (by rfl) ?_
    walk_at "name"
    refine AEs_cons (by rfl) ?_
    refine AE_int ?_
    refine AEs_cons (by rfl) ?_
    walk_at "name"
    refine AEs_nil ⟨rfl, ?_⟩
    rw [← hHl]
    refine push_walk5 mem_hit (by omega) q2 fun H' r1 r2 => ?_
    refine AS_nil ⟨.inl rfl, trivial, ⟨H', mem_hit, r2, r1.trans ?_⟩, fun a bx ha e => mem_miss ha (mem_miss ha (q4 a bx ha e)), fun x V hx e => ?_⟩
    · rw [List.range_succ, List.map_append, hHl]
      exact q3.append_right _
    · show (σ6.set _ _).loc x = _
      rw [St.set_loc, if_neg hx]; exact q5 x V hx e
  rintro fl σ6 ⟨rfl, ⟨H0, q1, q2, q3⟩, q4, q5⟩
  have inj : ∀ (a b : Nat) t, ts[a]? = some t → ts[b]? = some t → a = b := by
    intro a b t h1 h2
    have la := (List.getElem?_eq_some_iff.mp h1).1
    have lb := (List.getElem?_eq_some_iff.mp h2).1
    have e := (List.getElem?_eq_some_iff.mp h1).2.trans (List.getElem?_eq_some_iff.mp h2).2.symm
    have pw := List.pairwise_iff_getElem.mp hnd
    rcases Nat.lt_trichotomy a b with h | h | h
    · exact absurd e (pw a b la lb h)
    · exact h
    · exact absurd e.symm (pw b a lb la h)
  have hH0 : H0.length = 6 := by simpa using q3.length_eq
  have start : LwI ws BA LA HA CA EA RA 18 σ6 := by
    refine ⟨⟨fun k => if k < 6 then [k] else [], [], H0, [0, 1, 2, 3, 4, 5], _, _, ts, Hq.start q2 q3, by rw [hH0]; rfl, by decide, hlen6, inj, tne, q4 _ _ nBE m1, fun b t hb => q4 _ _ (tne t (List.mem_of_getElem? hb)).2.2.2.2.1 (m7 b t hb), q4 _ _ nLE m2, q4 _ _ nHE m3, q4 _ _ nCE m4, q1, q4 _ _ (Ne.symm nER) m6⟩, q5 _ _ (by decide) l1, q5 _ _ (by decide) l2, q5 _ _ (by decide) l3, q5 _ _ (by decide) l4, q5 _ _ (by decide) l5, q5 _ _ (by decide) l6, q5 _ _ (by decide) l7⟩
  clear q1 q2 q3 q4 q5 l1 l2 l3 l4 l5 l6 l7 m1 m2 m3 m4 m5 m6 m7 inj tne hnd hlen hlen6 hDt hH0
  refine AS_cons ?_
  refine Mine.T.mono (P := LwE ws RA) (AX_while (LwI ws BA LA HA CA EA RA) ?_ 18 start) ?_
  · intro m σ7 hI
    obtain ⟨⟨bl, course, H, lies, hrs, cos, ts, q, hm, hm18, hl6, inj, tne, m1, m7, m2, m3, m4, m5, m6⟩, l1, l2, l3, l4, l5, l6, l7⟩ := hI
    refine AT_cmp rfl ?_
    walk_at "name"
    refine AE_list ?_
    refine AEs_nil ⟨by simp, .frozen ?_⟩
    refine Cmp_neD ok (View.ref m5) View.self (pureTs _) pureNil fun b hb => ⟨fun hc => ?_, fun hc => ?_⟩
    rotate_left
    · have hH : H = [] := by
        have : ¬ (Val.lst (H.map tv) ≠ .lst []) := fun z => by rw [hb.mpr z] at hc; cases hc
        have := Classical.not_not.mp this
        injection this with this
        simpa using this
      subst hH
      exact ⟨rfl, ⟨course, m6, q.fin⟩, l1, l7⟩
    have hH : H ≠ [] := fun e => hb.mp hc (by rw [e]; rfl)
    clear hb hc
    have hHl : H.length ≤ 18 := by omega
    refine AS_cons ?_
    walk_at "asn"
    refine AE_builtin ok (BName_fn hX F.max (by decide) (by decide) (by rfl) (by rfl)) (by rfl) (by rfl) ?_
    refine AEs_cons (by rfl) ?_
    walk_at "name"
    refine AEs_nil ?_
    refine BC_maxT ok (l := H) (.ref m5) hH ?_
    obtain ⟨b1, b2⟩ := bestT_max hH
    obtain ⟨r, k, hk6, ex, hr⟩ := q.he _ b1
    rw [ex] at b1 b2 ⊢
    refine AG_name ok (Writes_fn hX (by decide) (by decide +kernel)) ?_
    refine AS_cons ?_
    refine Mine.T.mono (P := fun fl σ' => fl = .next ∧ ∃ H', ([r, -(k : Int)] :: H').Perm H ∧ HF H' 0 ∧ σ' = (σ7.set (Str.ofString "top") (tv [r, -(k : Int)])).put EA (.list (H'.map tv))) ?_ ?_
    · refine AX_if ?_
      refine AT_cmp rfl ?_
      refine AE_call ok (hB ▸ N1) (by rw [← hX]; rfl) (by decide) (by rfl) ?_
      refine AEs_cons (by rfl) ?_
      walk_at "name"
      refine AEs_nil ⟨rfl, ?_⟩
      refine pop_walk5 (hB ▸ N2) (hB ▸ F.len) (hB ▸ N3) (H := H) m5 (by omega) q.hp hH fun x H' hx1 hx2 hx3 hx4 => ?_
      have ex : x = [r, -(k : Int)] := lex_total (hx2 _ b1) (b2 _ hx1)
      subst ex
      walk_at "name"
      refine Cmp_neD ok .self .self (pureT _) (pureT [r, -(k : Int)]) fun b hb => ⟨fun z => absurd rfl (hb.mp z), fun _ => ?_⟩
      exact AS_nil ⟨rfl, H', hx3, hx4, rfl⟩
    rintro fl σ8 ⟨rfl, H', hp', hf', rfl⟩
    refine AS_cons ?_
    walk_at "asn"
    refine AE_neg ?_
    refine AE_sub (by intro _ _; rfl) ?_
    walk_at "name"
    refine AE_int ?_
    refine ⟨1, .int (-(k : Int)), rfl, .inr ⟨_, 1, rfl, by decide, by decide, rfl, rfl⟩, ⟨_, rfl, ?_⟩⟩
    rw [Int.neg_neg]
    refine AG_name ok (Writes_fn hX (by decide) (by decide +kernel)) ?_
    refine AS_cons ?_
    walk_at "asn"
    refine AE_sub (by intro _ _; rfl) ?_
    refine AE_subN (by intro _ _; rfl) ?_
    walk_at "name"
    walk_at "name"
    refine ⟨k, _, _, rfl, .lst, by omega, wk_get (by omega), ?_⟩
    refine AE_int ?_
    refine ⟨1, .int (ovOf ws k), rfl, .inr ⟨_, 1, rfl, by decide, by decide, rfl, rfl⟩, ?_⟩
    refine AG_name ok (Writes_fn hX (by decide) (by decide +kernel)) ?_
    have hov := hwo k hk6
    obtain ⟨into, hi1, hi2⟩ : ∃ into : Int, (ovOf ws k < 0 → into = -1) ∧ (0 ≤ ovOf ws k → lies[(ovOf ws k).toNat]? = some into) := by
      by_cases z : ovOf ws k < 0
      · exact ⟨-1, fun _ => rfl, fun h => by omega⟩
      · have hlt : (ovOf ws k).toNat < lies.length := by rw [q.ll]; omega
        exact ⟨lies[(ovOf ws k).toNat], fun h => absurd h z, fun _ => List.getElem?_eq_getElem hlt⟩
    refine AS_cons ?_
    walk_at "asn"
    refine AE_ifd (0 ≤ ovOf ws k) (.int into) ?_ ?_ ?_ ?_
    · refine AT_cmp rfl ?_
      walk_at "name"
      refine AE_int ?_
      exact Cmp_ge ⟨rfl, rfl⟩
    · intro h0
      refine AE_subN (by intro _ _; rfl) ?_
      walk_at "name"
      walk_at "name"
      refine ⟨(ovOf ws k).toNat, lies.map Val.int, .int into, by congr 1; omega, .ref (by walk_at "mem"), by omega, by rw [List.getElem?_map, hi2 h0]; rfl, rfl, rfl⟩
    · intro h0
      refine AE_neg ?_
      refine AE_int ?_
      exact ⟨_, rfl, rfl, by rw [hi1 (by omega)]⟩
    refine AG_name ok (Writes_fn hX (by decide) (by decide +kernel)) ?_
    obtain ⟨tk, htk⟩ : ∃ t, ts[k]? = some t := ⟨_, List.getElem?_eq_getElem (by omega)⟩
    have gts : ∀ (a : Nat) t, ts[a]? = some t → (ts.map Val.ref)[a]? = some (.ref t) := fun a t h => by rw [List.getElem?_map, h]; rfl
    have hH' : H'.length + 1 = H.length := by simpa using hp'.length_eq
    generalize hσ : (St.set (St.set (St.set (St.put _ EA _) _ _) _ _) _ _) = σ9
    have m1' : σ9.mem BA = some (.list (ts.map Val.ref)) := by rw [← hσ]; walk_at "mem"
    have m2' : σ9.mem LA = some (.list (lies.map Val.int)) := by rw [← hσ]; walk_at "mem"
    have m3' : σ9.mem HA = some (.list (hrs.map Val.int)) := by rw [← hσ]; walk_at "mem"
    have m4' : σ9.mem CA = some (.list (cos.map Val.int)) := by rw [← hσ]; walk_at "mem"
    have m5' : σ9.mem EA = some (.list (H'.map tv)) := by rw [← hσ]; walk_at "mem"
    have m6' : σ9.mem RA = some (.list (nv course)) := by rw [← hσ]; walk_at "mem"
    have m7' : ∀ (b : Nat) t, ts[b]? = some t → σ9.mem t = some (.list (nv (bl b))) := fun b t hb => by
      obtain ⟨t0, t1, t2, t3, t4, t5⟩ := tne t (List.mem_of_getElem? hb)
      have hmm := m7 b t hb
      rw [← hσ]; walk_at "mem"
    have l1' : σ9.loc (Str.ofString "works") = some (.lst (ws.map Wk.v)) := by rw [← hσ]; walk_at "loc"
    have l2' : σ9.loc (Str.ofString "blocks") = some (.ref BA) := by rw [← hσ]; walk_at "loc"
    have l3' : σ9.loc (Str.ofString "lies") = some (.ref LA) := by rw [← hσ]; walk_at "loc"
    have l4' : σ9.loc (Str.ofString "hours") = some (.ref HA) := by rw [← hσ]; walk_at "loc"
    have l5' : σ9.loc (Str.ofString "costs") = some (.ref CA) := by rw [← hσ]; walk_at "loc"
    have l6' : σ9.loc (Str.ofString "heap") = some (.ref EA) := by rw [← hσ]; walk_at "loc"
    have l7' : σ9.loc (Str.ofString "course") = some (.ref RA) := by rw [← hσ]; walk_at "loc"
    have l8' : σ9.loc (Str.ofString "k") = some (.int (k : Int)) := by rw [← hσ]; walk_at "loc"
    have l9' : σ9.loc (Str.ofString "into") = some (.int into) := by rw [← hσ]; walk_at "loc"
    clear hσ m1 m2 m3 m4 m5 m6 m7 l1 l2 l3 l4 l5 l6 l7
    have nvn : ∀ l : List Nat, Val.lst (nv l) ≠ Val.lst [] ↔ l ≠ [] := fun l => by
      cases l with
      | nil => simp [zs]
      | cons a b => simp [zs]
    refine AS_cons ?_
    have place : 0 ≤ ovOf ws k → (into = -1 ∧ (ovOf ws k).toNat ∈ course) ∨ ∃ p : Nat, into = (p : Int) ∧ (ovOf ws k).toNat ∈ bl p := fun h0 => by
      have e := hi2 h0
      rcases q.place (j := (ovOf ws k).toNat) (by omega) with z | ⟨p, z⟩
      · left
        have := q.lc _ z
        rw [e] at this
        injection this with this
        exact ⟨this, z⟩
      · right
        have := q.lb p _ z
        rw [e] at this
        injection this with this
        exact ⟨p, this, z⟩
    have parE : parOf ws k = if ovOf ws k < 0 then none else some (ovOf ws k).toNat := rfl
    have clen : course.length ≤ 6 := by
      have l2 := q.hn.perm.length_eq
      simp only [List.length_append, List.length_range] at l2
      omega
    have blen := q.len6
    have bmem : ∀ b, ∀ j ∈ bl b, j < 6 := fun b j hj => q.mem6 hj
    refine Mine.T.mono (P := fun fl σ' => fl = .next ∧ MdI ws BA LA HA CA EA RA ts lies k into m σ') ?_ ?_
    · refine AX_ifd (bl k ≠ [] ∧ into < 0) ?_ ?_ ?_
      · refine AT_and ?_
        refine AT_cmp rfl ?_
        refine AE_subN (by intro _ _; rfl) ?_
        walk_at "name"
        walk_at "name"
        refine ⟨k, _, _, rfl, .ref m1', by omega, gts k tk htk, ?_⟩
        refine AE_list ?_
        refine AEs_nil ⟨by simp, .frozen ?_⟩
        refine Cmp_neD ok (View.ref (m7' k tk htk)) View.self (pureInts _) pureNil fun b hb => ⟨fun hc => ?_, fun hc => ⟨rfl, ?_⟩⟩
        · have hne := (nvn _).mp (hb.mp hc)
          refine AT_cmp rfl ?_
          walk_at "name"
          refine AE_int ?_
          exact Cmp_lt ⟨rfl, by simp [hne]⟩
        · have hne : bl k = [] := Classical.byContradiction fun z => by rw [hb.mpr ((nvn _).mpr z)] at hc; cases hc
          simp [hne]
      · rintro ⟨hne, hneg⟩
        refine AS_cons ?_
        refine AX_expr (by rw [← hX]; rfl) (by with_unfolding_all rfl) ?_
        refine AE_extend ?_ (by rfl) (by with_unfolding_all rfl)
        walk_at "name"
        refine ⟨RA, _, rfl, m6', ?_⟩
        refine AE_subN (by intro _ _; rfl) ?_
        walk_at "name"
        walk_at "name"
        refine ⟨k, _, _, rfl, .ref m1', by omega, gts k tk htk, ?_⟩
        refine ⟨_, _, m6', .ref (m7' k tk htk), by have := blen k; simp [zs_len]; omega, ?_⟩
        have hout : into = -1 ∧ ∀ i, parOf ws k = some i → i ∈ course := by
          by_cases z : ovOf ws k < 0
          · exact ⟨hi1 z, fun i hi => by rw [parE, if_pos z] at hi; cases hi⟩
          · rcases place (by omega) with ⟨a, b⟩ | ⟨p, a, b⟩
            · exact ⟨a, fun i hi => by rw [parE, if_neg z] at hi; cases hi; exact b⟩
            · omega
        refine AS_nil ⟨rfl, ⟨bl, course ++ bl k, H', hrs, cos, ?_, bmem k, ?_, mem_miss nBR m1', fun b t hb => mem_miss (tne t (List.mem_of_getElem? hb)).2.2.2.2.2 (m7' b t hb), mem_miss nLR m2', mem_miss nHR m3', mem_miss nCR m4', mem_miss nER m5', ?_⟩, l1', l2', l3', l4', l5', l6', l7', l8', l9'⟩
        · rw [hout.1]
          exact q.out hwh hne b2 hp' hf' hout.2
        · have := cnt_out hk6 hne
          omega
        · rw [show nv (course ++ bl k) = nv course ++ nv (bl k) from by rw [nv_eq, nv_eq, nv_eq, List.map_append]]
          exact mem_hit
      · intro hc
        refine AS_cons ?_
        refine AX_ifd (bl k ≠ []) ?_ ?_ ?_
        · refine AT_cmp rfl ?_
          refine AE_subN (by intro _ _; rfl) ?_
          walk_at "name"
          walk_at "name"
          refine ⟨k, _, _, rfl, .ref m1', by omega, gts k tk htk, ?_⟩
          refine AE_list ?_
          refine AEs_nil ⟨by simp, .frozen ?_⟩
          refine Cmp_neD ok (View.ref (m7' k tk htk)) View.self (pureInts _) pureNil fun b hb => ⟨rfl, ?_⟩
          rw [Bool.eq_iff_iff, hb, nvn]; simp
        · intro hne
          have hnn : ¬ into < 0 := fun z => hc ⟨hne, z⟩
          have hov0 : 0 ≤ ovOf ws k := by
            by_cases z : ovOf ws k < 0
            · have := hi1 z; omega
            · omega
          obtain ⟨p, rfl, hpm⟩ : ∃ p : Nat, into = (p : Int) ∧ (ovOf ws k).toNat ∈ bl p := by
            rcases place hov0 with ⟨a, b⟩ | z
            · omega
            · exact z
          have hpar : parOf ws k = some (ovOf ws k).toNat := by rw [parE, if_neg (by omega)]
          have hlow := q.low _ _ hpm
          have hpk : p ≠ k := by omega
          have hp0 : bl p ≠ [] := fun z => by rw [z] at hpm; cases hpm
          have hp6 := q.lt6 hp0
          obtain ⟨tp, htp⟩ : ∃ t, ts[p]? = some t := ⟨_, List.getElem?_eq_getElem (by omega)⟩
          have ntp : tp ≠ tk := fun e => hpk (inj p k tp htp (e ▸ htk))
          obtain ⟨p0, p1, p2, p3, p4, p5⟩ := tne tp (List.mem_of_getElem? htp)
          obtain ⟨k0, k1, k2, k3, k4, k5⟩ := tne tk (List.mem_of_getElem? htk)
          have hv1 := q.hv k hne
          have hv2 := q.hv p hp0
          have cv1 := q.cv k hne
          have cv2 := q.cv p hp0
          have hrl := q.hl
          have col := q.cl
          refine AS_cons ?_
          refine AX_expr (by rw [← hX]; rfl) (by with_unfolding_all rfl) ?_
          refine AE_extend ?_ (by rfl) (by with_unfolding_all rfl)
          refine AE_subN (by intro _ _; rfl) ?_
          walk_at "name"
          walk_at "name"
          refine ⟨p, _, _, rfl, .ref m1', by omega, gts p tp htp, ?_⟩
          refine ⟨tp, _, rfl, m7' p tp htp, ?_⟩
          refine AE_subN (by intro _ _; rfl) ?_
          walk_at "name"
          walk_at "name"
          refine ⟨k, _, _, rfl, .ref m1', by omega, gts k tk htk, ?_⟩
          refine ⟨_, _, m7' p tp htp, .ref (m7' k tk htk), by have := blen k; have := blen p; simp [zs_len]; omega, ?_⟩
          rw [show nv (bl p) ++ nv (bl k) = nv (bl p ++ bl k) from by rw [nv_eq, nv_eq, nv_eq, List.map_append]]
          have gi : ∀ {l : List Int} {j : Nat} {v : Int}, l[j]? = some v → (l.map Val.int)[j]? = some (.int v) := fun h => by rw [List.getElem?_map, h]; rfl
          refine AS_cons ?_
          refine AX_augN ?_ (by intro _ _ _; rfl)
          walk_at "name"
          walk_at "name"
          refine ⟨HA, _, p, _, rfl, rfl, by walk_at "mem", gi hv2, by omega, ?_⟩
          refine AE_subN (by intro _ _; rfl) ?_
          walk_at "name"
          walk_at "name"
          refine ⟨k, hrs.map Val.int, _, rfl, .ref (by walk_at "mem"), by omega, gi hv1, ?_⟩
          refine Iop_add ?_
          refine ⟨hrs.map Val.int, by walk_at "mem", by rw [List.length_map]; omega, ?_⟩
          rw [← List.map_set]
          refine AS_cons ?_
          refine AX_augN ?_ (by intro _ _ _; rfl)
          walk_at "name"
          walk_at "name"
          refine ⟨CA, _, p, _, rfl, rfl, by walk_at "mem", gi cv2, by omega, ?_⟩
          refine AE_subN (by intro _ _; rfl) ?_
          walk_at "name"
          walk_at "name"
          refine ⟨k, cos.map Val.int, _, rfl, .ref (by walk_at "mem"), by omega, gi cv1, ?_⟩
          refine Iop_add ?_
          refine ⟨cos.map Val.int, by walk_at "mem", by rw [List.length_map]; omega, ?_⟩
          rw [← List.map_set]
          have cs : (cos.set p (tot (bl p) (coOf ws) + tot (bl k) (coOf ws)))[p]? = some (tot (bl p) (coOf ws) + tot (bl k) (coOf ws)) := List.getElem?_set_self (by omega)
          have hs : (hrs.set p (tot (bl p) (hrOf ws) + tot (bl k) (hrOf ws)))[p]? = some (tot (bl p) (hrOf ws) + tot (bl k) (hrOf ws)) := List.getElem?_set_self (by omega)
          obtain ⟨hh, ehh, hh1, hh2⟩ : ∃ hh : Nat, tot (bl p) (hrOf ws) + tot (bl k) (hrOf ws) = (hh : Int) ∧ 1 ≤ hh ∧ hh ≤ 18 := by
            have len : (bl p).length + (bl k).length ≤ 6 := by
              have e := (flat_perm (bl := bl) hp6 bl fun _ _ => rfl).1
              have e2 := (flat_perm (bl := fun b => if b = p then [] else bl b) hk6 (fun b => if b = p then [] else bl b) fun _ _ => rfl).1
              have l1 := e.length_eq
              have l2 := q.hn.perm.length_eq
              have l3 := e2.length_eq
              simp only [List.length_append, List.length_range, Ne.symm hpk, if_false] at l1 l2 l3
              omega
            have tp' := tot_bound (f := hrOf ws) (b := 3) (fun k => ⟨by have := hwh k; omega, (hwh k).2⟩) (bl p)
            have tk' := tot_bound (f := hrOf ws) (b := 3) (fun k => ⟨by have := hwh k; omega, (hwh k).2⟩) (bl k)
            obtain ⟨a, ea, a1, a2⟩ := q.hrs18 hwh hp0
            obtain ⟨c, ec, c1, c2⟩ := q.hrs18 hwh hne
            exact ⟨a + c, by rw [ea, ec]; omega, by omega, by omega⟩
          refine AS_cons ?_
          refine AX_expr (by rw [← hX]; rfl) (by with_unfolding_all rfl) ?_
          refine AE_append ?_ (by rfl) (by with_unfolding_all rfl)
          walk_at "name"
          refine ⟨EA, _, rfl, by walk_at "mem", ?_⟩
          refine AE_tuple ?_
          refine AEs_cons (by rfl) ?_
          refine AE_bin ?_
          refine AE_subN (by intro _ _; rfl) ?_
          walk_at "name"
          walk_at "name"
          refine ⟨p, _, _, rfl, .ref mem_hit, by omega, gi cs, ?_⟩
          refine AE_bin ?_
          refine AE_int ?_
          refine AE_subN (by intro _ _; rfl) ?_
          walk_at "name"
          walk_at "name"
          refine ⟨p, (hrs.set p (tot (bl p) (hrOf ws) + tot (bl k) (hrOf ws))).map Val.int, _, rfl, .ref (by walk_at "mem"), by omega, gi hs, ?_⟩
          refine Op_div (by omega) (PyProof.noPylong_small (by omega)) ?_
          refine Op_mul (.of_right (by rw [ehh]; exact fdiv_bits hh hh2 hh1)) ?_
          refine AEs_cons (by rfl) ?_
          refine AE_neg ?_
          walk_at "name"
          refine ⟨_, rfl, ?_⟩
          refine AEs_nil ⟨by simp, ?_⟩
          refine ⟨H'.map tv, by walk_at "mem", by simp; omega, ?_⟩
          rw [show ∀ c : Int, H'.map tv ++ [Val.tup [Val.int c, Val.int (-(p : Int))]] = (H' ++ [[c, -(p : Int)]]).map tv from fun c => by simp [tv]]
          refine AS_cons ?_
          refine AX_expr (by rw [← hX]; rfl) (by with_unfolding_all rfl) ?_
          refine AE_call ok (hB ▸ N2) (by rw [← hX]; rfl) (by decide) (by rfl) ?_
          refine AEs_cons (by rfl) ?_
          walk_at "name"
          refine AEs_cons (by rfl) ?_
          refine AE_int ?_
          refine AEs_cons (by rfl) ?_
          refine AE_bin ?_
          refine AE_builtin ok (BName_fn hX F.len (by decide) (by decide) (by rfl) (by rfl)) (by rfl) (by rfl) ?_
          refine AEs_cons (by rfl) ?_
          walk_at "name"
          refine AEs_nil ?_
          refine BC_len (.ref mem_hit) (by simp; omega) ?_
          refine AE_int ?_
          refine Op_sub ?_
          rw [show ∀ x : El, (((H' ++ [x]).map tv).length : Int) - 1 = (H'.length : Int) from fun x => by simp]
          refine AEs_nil ⟨rfl, ?_⟩
          refine push_walk5 mem_hit (by omega) hf' fun H1 r1 r2 => ?_
          refine AS_nil ?_
          refine AS_nil ⟨rfl, ⟨fun b => if b = p then bl p ++ bl k else bl b, course, H1, _, _, ?_, ?_, ?_, by walk_at "mem", fun b t hb => ?_, by walk_at "mem", by walk_at "mem", by walk_at "mem", mem_hit, by walk_at "mem"⟩, by walk_at "loc", by walk_at "loc", by walk_at "loc", by walk_at "loc", by walk_at "loc", by walk_at "loc", by walk_at "loc", by walk_at "loc", by walk_at "loc"⟩
          · show Hq ws _ _ _ (setAll lies (if k = p then bl p ++ bl k else bl k) _) _ _
            rw [if_neg (Ne.symm hpk)]
            exact q.join hwh hne b2 hp' hpar (by omega) hpm r2 r1
          · show ∀ j ∈ (if k = p then bl p ++ bl k else bl k), j < 6
            rw [if_neg (Ne.symm hpk)]; exact bmem k
          · have h1 := cnt_out hk6 hne
            have h2 : cnt (fun b => if b = k then [] else if b = p then bl p ++ bl k else bl b) = cnt (fun b => if b = k then [] else bl b) := cnt_congr fun b => by
              by_cases z : b = k
              · simp [z]
              · by_cases z2 : b = p
                · subst z2; simp [z, hp0, hne]
                · simp [z, z2]
            have h3 : H1.length = H'.length + 1 := by simpa using r1.length_eq
            rw [h2]; omega
          · obtain ⟨t0, t1, t2, t3, t4, t5⟩ := tne t (List.mem_of_getElem? hb)
            show _ = some (Box.list (nv (if b = p then bl p ++ bl k else bl b)))
            by_cases z : b = p
            · subst z
              rw [htp] at hb; cases hb
              rw [if_pos rfl]
              walk_at "mem"
            · have nt : t ≠ tp := fun e => z (inj b p t hb (e ▸ htp))
              rw [if_neg z]
              have := m7' b t hb
              walk_at "mem"
        · intro hne
          have hne' : bl k = [] := Classical.not_not.mp hne
          refine AS_nil ?_
          refine AS_nil ⟨rfl, ⟨bl, course, H', hrs, cos, q.none hne' hp' hf' into, bmem k, ?_, m1', m7', m2', m3', m4', m5', m6'⟩, l1', l2', l3', l4', l5', l6', l7', l8', l9'⟩
          have : cnt (fun b => if b = k then [] else bl b) = cnt bl := cnt_congr fun b => by
            by_cases z : b = k
            · simp [z, hne']
            · simp [z]
          omega
    · rintro fl σa ⟨rfl, ⟨bl1, course1, H1, hrs1, cos1, q', bm, hme, u1, u7, u2, u3, u4, u5, u6⟩, v1, v2, v3, v4, v5, v6, v7, v8, v9⟩
      clear m1' m2' m3' m4' m5' m6' m7' l1' l2' l3' l4' l5' l6' l7' l8' l9'
      have llen := q.ll
      obtain ⟨k0, k1, k2, k3, k4, k5⟩ := tne tk (List.mem_of_getElem? htk)
      refine AS_cons ?_
      refine Mine.T.mono (P := fun fl σ' => fl = .next ∧ FoI σa LA lies (bl1 k) into (bl1 k).length σ') ?_ ?_
      · refine AX_for ok (by intro _; rfl) ?_
        refine AI_list (.inl ⟨_, _, rfl⟩) ?_
        refine AE_subN (by intro _ _; rfl) ?_
        walk_at "name"
        walk_at "name"
        refine ⟨k, _, _, rfl, .ref u1, by omega, gts k tk htk, ?_⟩
        refine ⟨_, .ref (u7 k tk htk), ?_⟩
        refine ForL_inv (FoI σa LA lies (bl1 k) into) ?_ (fun σ h => ⟨rfl, by rw [List.length_map, zs_len] at h; exact h⟩) ⟨u2, fun _ _ _ e => e, fun _ _ _ e => e⟩
        intro i σb V hV hI
        obtain ⟨x1, x2, x3⟩ := hI
        have hi : i < (bl1 k).length := by simpa [zs_len] using (List.getElem?_eq_some_iff.mp hV).1
        obtain ⟨j, hj⟩ : ∃ j, (bl1 k)[i]? = some j := ⟨_, List.getElem?_eq_getElem hi⟩
        obtain rfl : V = .int (j : Int) := by
          rw [nv_eq, List.getElem?_map, hj] at hV
          simpa using hV.symm
        have hj6 := bm j (List.mem_of_getElem? hj)
        have y1 := x3 _ _ (by decide) v3
        have y2 := x3 _ _ (by decide) v9
        have y3 := x2 _ _ k1 (u7 k tk htk)
        refine AG_name ok (Writes_fn hX (by decide) (by decide +kernel)) ?_
        refine AS_cons ?_
        walk_at "asn"
        walk_at "name"
        refine AG_itemN ?_
        walk_at "name"
        walk_at "name"
        refine ⟨LA, _, j, rfl, rfl, x1, by rw [List.length_map, setAll_len]; omega, by rw [List.length_map, setAll_len]; omega, ?_⟩
        rw [← List.map_set]
        refine AS_nil ⟨.inl rfl, .ref (mem_miss k1 y3), ?_, fun a bx ha e => mem_miss ha (x2 a bx ha e), fun x V hx e => ?_⟩
        · rw [List.take_add_one, hj, Option.toList_some, setAll_snoc]
          exact mem_hit
        · show (σb.set _ _).loc x = _
          rw [St.set_loc, if_neg hx]; exact x3 x V hx e
      rintro fl σb ⟨rfl, x1, x2, x3⟩
      rw [List.take_length] at x1
      have z1 := x2 _ _ nBL u1
      have y1 := x3 _ _ (by decide) v2
      have y2 := x3 _ _ (by decide) v8
      refine AS_cons ?_
      walk_at "asn"
      refine AE_list ?_
      refine AEs_nil ⟨by simp, .tracked fun tn htn => ?_⟩
      have d1 : BA ≠ tn := ne_of_mem htn z1
      have d2 : LA ≠ tn := ne_of_mem htn x1
      have d3 : HA ≠ tn := ne_of_mem htn (x2 _ _ (Ne.symm nLH) u3)
      have d4 : CA ≠ tn := ne_of_mem htn (x2 _ _ (Ne.symm nLC) u4)
      have d5' : EA ≠ tn := ne_of_mem htn (x2 _ _ (Ne.symm nLE) u5)
      have d6 : RA ≠ tn := ne_of_mem htn (x2 _ _ (Ne.symm nLR) u6)
      have d7 : ∀ (b : Nat) t, ts[b]? = some t → t ≠ tn := fun b t hb => ne_of_mem htn (x2 _ _ (tne t (List.mem_of_getElem? hb)).2.1 (u7 b t hb))
      refine AG_itemN ?_
      walk_at "name"
      walk_at "name"
      refine ⟨BA, ts.map Val.ref, k, rfl, rfl, by walk_at "mem", by rw [List.length_map]; omega, by rw [List.length_map]; omega, ?_⟩
      rw [show (ts.map Val.ref).set k (Val.ref tn) = (ts.set k tn).map Val.ref from by rw [List.map_set]]
      refine AS_nil ⟨_, hme, ⟨_, course1, H1, _, hrs1, cos1, ts.set k tn, q', rfl, by omega, by simp [hl6], ?_, fun t ht => ?_, mem_hit, fun b t hb => ?_, ?_, ?_, ?_, ?_, ?_⟩, ?_, ?_, ?_, ?_, ?_, ?_, ?_⟩
      · intro a b t ha hb
        rw [List.getElem?_set] at ha hb
        by_cases c1 : k = a
        · by_cases c2 : k = b
          · omega
          · rw [if_pos c1, if_pos (by omega)] at ha
            cases ha
            rw [if_neg c2] at hb
            exact absurd rfl (d7 b _ hb)
        · rw [if_neg c1] at ha
          by_cases c2 : k = b
          · rw [if_pos c2, if_pos (by omega)] at hb
            cases hb
            exact absurd rfl (d7 a _ ha)
          · rw [if_neg c2] at hb
            exact inj a b t ha hb
      · rcases List.mem_or_eq_of_mem_set ht with z | z
        · exact tne t z
        · subst z
          exact ⟨Ne.symm d1, Ne.symm d2, Ne.symm d3, Ne.symm d4, Ne.symm d5', Ne.symm d6⟩
      · rw [List.getElem?_set] at hb
        by_cases c1 : k = b
        · rw [if_pos c1, if_pos (by omega)] at hb
          cases hb
          rw [if_pos c1.symm]
          exact mem_miss (Ne.symm d1) mem_hit
        · rw [if_neg c1] at hb
          obtain ⟨t0, t1, t2, t3, t4, t5⟩ := tne t (List.mem_of_getElem? hb)
          rw [if_neg (Ne.symm c1)]
          exact mem_miss t0 (mem_miss (d7 b t hb) (x2 _ _ t1 (u7 b t hb)))
      · exact mem_miss (Ne.symm nBL) (mem_miss d2 x1)
      · exact mem_miss (Ne.symm nBH) (mem_miss d3 (x2 _ _ (Ne.symm nLH) u3))
      · exact mem_miss (Ne.symm nBC) (mem_miss d4 (x2 _ _ (Ne.symm nLC) u4))
      · exact mem_miss (Ne.symm nBE) (mem_miss d5' (x2 _ _ (Ne.symm nLE) u5))
      · exact mem_miss (Ne.symm nBR) (mem_miss d6 (x2 _ _ (Ne.symm nLR) u6))
      · exact x3 _ _ (by decide) v1
      · exact x3 _ _ (by decide) v2
      · exact x3 _ _ (by decide) v3
      · exact x3 _ _ (by decide) v4
      · exact x3 _ _ (by decide) v5
      · exact x3 _ _ (by decide) v6
      · exact x3 _ _ (by decide) v7
  · rintro fl σ7 ⟨rfl, ⟨course, m6, cp, co, cb⟩, l1, l7⟩
    have clen : course.length = 6 := by simpa using cp.length_eq
    have cm : ∀ j ∈ course, j < 6 := fun j hj => by simpa using cp.mem_iff.mp hj
    refine AS_cons ?_
    refine Mine.T.mono (P := fun fl σ' => fl = .next ∧ σ' = σ7) ?_ ?_
    · refine AX_ifd False ?_ (fun h => h.elim) (fun _ => AS_nil ⟨rfl, rfl⟩)
      refine AT_cmp rfl ?_
      refine AE_builtin ok (BName_fn hX F.sorted (by decide) (by decide) (by rfl) (by rfl)) (by rfl) (by rfl) ?_
      refine AEs_cons (by rfl) ?_
      walk_at "name"
      refine AEs_nil ?_
      refine BC_sorted (ns := zs course) (.ref m6) (by rw [zs_len]; omega) fun ns' p1 p2 => .frozen ?_
      have e : ns' = [0, 1, 2, 3, 4, 5] := sorted_six (p1.trans (show (zs course).Perm (zs (List.range 6)) from cp.map _)) p2 (by decide)
      subst e
      refine AE_list ?_
      refine AEs_cons (by rfl) ?_
      refine AE_int ?_
      refine AEs_cons (by rfl) ?_
      refine AE_int ?_
      refine AEs_cons (by rfl) ?_
      refine AE_int ?_
      refine AEs_cons (by rfl) ?_
      refine AE_int ?_
      refine AEs_cons (by rfl) ?_
      refine AE_int ?_
      refine AEs_cons (by rfl) ?_
      refine AE_int ?_
      refine AEs_nil ⟨by simp, .frozen ?_⟩
      refine Cmp_neD ok .self .self (pureInts _) (pureInts [0, 1, 2, 3, 4, 5]) fun b hb => ⟨rfl, ?_⟩
      rw [Bool.eq_iff_iff, hb]
      simp
    rintro fl σ' ⟨rfl, rfl⟩
    refine AS_cons ?_
    refine AX_assign (by rw [← hX]; with_unfolding_all rfl) (by rw [← hX]; with_unfolding_all rfl) (by with_unfolding_all rfl) ?_
    refine AE_tuple ?_
    refine AEs_cons (by rfl) ?_
    refine AE_int ?_
    refine AEs_cons (by rfl) ?_
    refine AE_int ?_
    refine AEs_nil ⟨by simp, ?_⟩
    refine AG_tuple ok (by intro t ht e p q; simp at ht; rcases ht with rfl | rfl <;> cases q) rfl ?_
    show AG _ _ _ _ _
    refine AG_name ok (Writes_fn hX (by decide) (by decide +kernel)) ?_
    show AG _ _ _ _ _
    refine AG_name ok (Writes_fn hX (by decide) (by decide +kernel)) ?_
    show AS _ _ _ _
    refine AS_cons ?_
    refine Mine.T.mono (P := fun fl σ2 => fl = .next ∧ EnI ws RA course 6 σ2) ?_ ?_
    · refine AX_for ok (by intro _; rfl) ?_
      refine AI_enum ok ⟨_, _, _, rfl⟩ (BName_fn hX F.enumerate (by decide) (by decide) (by rfl) (by rfl)) (by rfl) ?_
      walk_at "name"
      refine ⟨nv course, .ref m6, ?_⟩
      refine ForL_inv (EnI ws RA course) ?_ (fun σ h => ⟨rfl, by rw [List.length_mapIdx, List.length_map, zs_len, clen] at h; exact h⟩) ⟨m6, by walk_at "loc", by walk_at "loc", by walk_at "loc", by walk_at "loc"⟩
      intro i σ2 V hV hI
      obtain ⟨x1, x2, x3, x4, x5⟩ := hI
      have hi : i < course.length := by simpa [zs_len] using (List.getElem?_eq_some_iff.mp hV).1
      obtain ⟨k, hk⟩ : ∃ k, course[i]? = some k := ⟨_, List.getElem?_eq_getElem hi⟩
      obtain rfl : V = .tup [.int (i : Int), .int (k : Int)] := by
        rw [nv_eq, List.getElem?_mapIdx, List.getElem?_map, hk] at hV
        simpa using hV.symm
      have hk6 := cm k (List.mem_of_getElem? hk)
      have etk : course.take (i + 1) = course.take i ++ [k] := by rw [List.take_add_one, hk]; rfl
      have tb := tot_bound (f := hrOf ws) (b := 3) (fun k => ⟨by have := hwh k; omega, (hwh k).2⟩) (course.take i)
      have tl : (course.take i).length ≤ 6 := by rw [List.length_take]; omega
      have hwk := hwh k
      refine AG_tuple ok (by intro t ht e p q; simp at ht; rcases ht with rfl | rfl <;> cases q) rfl ?_
      show AG _ _ _ _ _
      refine AG_name ok (Writes_fn hX (by decide) (by decide +kernel)) ?_
      show AG _ _ _ _ _
      refine AG_name ok (Writes_fn hX (by decide) (by decide +kernel)) ?_
      show AS _ _ _ _
      refine AS_cons ?_
      refine AX_aug ok (W := .int (tot (course.take i) (hrOf ws))) (by walk_at "loc") (Writes_fn hX (by decide) (by decide +kernel)) ?_
      refine AE_sub (by intro _ _; rfl) ?_
      refine AE_subN (by intro _ _; rfl) ?_
      walk_at "name"
      walk_at "name"
      refine ⟨k, _, _, rfl, .lst, by omega, wk_get (by omega), ?_⟩
      refine AE_int ?_
      refine ⟨0, .int (hrOf ws k), rfl, .inr ⟨_, 0, rfl, by decide, by decide, rfl, rfl⟩, ?_⟩
      refine Iop_add ?_
      refine AS_cons ?_
      refine AX_aug ok (W := .int (Fc (hrOf ws) (coOf ws) 0 (course.take i))) (by walk_at "loc") (Writes_fn hX (by decide) (by decide +kernel)) ?_
      refine AE_bin ?_
      refine AE_sub (by intro _ _; rfl) ?_
      refine AE_subN (by intro _ _; rfl) ?_
      walk_at "name"
      walk_at "name"
      refine ⟨k, _, _, rfl, .lst, by omega, wk_get (by omega), ?_⟩
      refine AE_int ?_
      refine ⟨2, .int (coOf ws k), rfl, .inr ⟨_, 2, rfl, by decide, by decide, rfl, rfl⟩, ?_⟩
      walk_at "name"
      refine Op_mul (.of_right (intBits_le_64 (by omega) (by omega))) ?_
      refine Iop_add ?_
      refine AS_cons ?_
      refine AX_ifd False ?_ (fun h => h.elim) (fun _ => AS_nil (AS_nil ?_))
      · refine AT_and ?_
        refine AT_cmp rfl ?_
        refine AE_sub (by intro _ _; rfl) ?_
        refine AE_subN (by intro _ _; rfl) ?_
        walk_at "name"
        walk_at "name"
        refine ⟨k, _, _, rfl, .lst, by omega, wk_get (by omega), ?_⟩
        refine AE_int ?_
        refine ⟨1, .int (ovOf ws k), rfl, .inr ⟨_, 1, rfl, by decide, by decide, rfl, rfl⟩, ?_⟩
        refine AE_int ?_
        refine Cmp_ge ?_
        refine ⟨fun hc => ?_, fun hc => ⟨rfl, rfl⟩⟩
        have h0 := of_decide_eq_true hc
        refine AT_cmp rfl ?_
        refine AE_sub (by intro _ _; rfl) ?_
        refine AE_subN (by intro _ _; rfl) ?_
        walk_at "name"
        walk_at "name"
        refine ⟨k, _, _, rfl, .lst, by omega, wk_get (by omega), ?_⟩
        refine AE_int ?_
        refine ⟨1, .int (ovOf ws k), rfl, .inr ⟨_, 1, rfl, by decide, by decide, rfl, rfl⟩, ?_⟩
        refine AE_slice (by intro _ _; exact ⟨_, rfl⟩) ?_
        walk_at "name"
        show AE _ _ _ _
        walk_at "name"
        refine ⟨_, rfl, ?_⟩
        refine ⟨_, .ref x1, by simp [zs_len]; omega, by decide, .frozen ?_⟩
        rw [pick_h, show (nv course).take i = (zs (course.take i)).map Val.int from by rw [nv_eq, show (zs (course.take i)).map Val.int = nv (course.take i) from rfl, nv_eq, List.map_take]]
        refine Cmp_notin .lst ⟨rfl, ?_⟩
        have hin : (ovOf ws k).toNat ∈ course.take i := by
          have := OrdIn.at co hk (ovOf ws k).toNat (by unfold parOf; rw [if_neg (by omega)])
          simpa using this
        have : ovOf ws k ∈ zs (course.take i) := by
          rw [show ovOf ws k = ((ovOf ws k).toNat : Int) from by omega]
          exact zs_mem.mpr hin
        simp [this]
      · refine ⟨.inl rfl, .ref x1, x1, by walk_at "loc", by walk_at "loc", ?_, ?_⟩
        · rw [etk, tot_append, tot_cons, tot_nil, Int.add_zero]
          walk_at "loc"
        · rw [etk, Fc_append, show ∀ t, Fc (hrOf ws) (coOf ws) t [k] = coOf ws k * (t + hrOf ws k) from fun t => by simp [Fc], Int.zero_add]
          walk_at "loc"
    rintro fl σ2 ⟨rfl, x1, x2, x3, x4, x5⟩
    rw [List.take_of_length_le (by omega)] at x5
    refine AS_cons ?_
    refine AX_ret ?_
    refine AE_cmp rfl ?_
    walk_at "name"
    refine AE_call ok (hB ▸ N5) (by rw [← hX]; rfl) (by decide) (by rfl) ?_
    refine AEs_cons (by rfl) ?_
    walk_at "name"
    refine AEs_nil ⟨rfl, ?_⟩
    refine least_walk5 (hB ▸ F) hwl hwo (fun k => ⟨by have := hwh k; omega, (hwh k).2⟩) fun v hv => ?_
    refine Cmp_eq ?_
    obtain ⟨⟨s, hs, es⟩, hmin⟩ := hv
    have h1 := cb s (by have := hs.1; rw [inside_full] at this; exact this) hs.2
    have h2 := hmin course ⟨by rw [inside_full]; exact cp, co⟩
    have h3 : Fc (hrOf ws) (coOf ws) 0 course = v := by omega
    rw [h3]
    simp [Fl.val]
end Mine
end
section
open PySem PySem.W PyProof.Rows
set_option maxRecDepth 100000
set_option maxHeartbeats 8000000
namespace Mine
open_top hd5 for PySem.Challenge.rw_dp0038_05
end Mine
end
section
open PySem PySem.W PyProof.Rows PySem.Calls
set_option maxRecDepth 100000
set_option maxHeartbeats 8000000
namespace Mine
theorem recs5 : recsOf hd5.view_39 = [d5 1, d5 2, d5 3, d5 5, d5 6] := by rfl

theorem top5 {loose : List Str} {mean : ExcName → Option Value} {mg mb : Str → Option Value} {h : Heap} (T : Top hd5.view_39 loose mean mg mb h) (hl : loose = []) {prog : Program} {w : World} {os : OsState} :
    Fns5 ⟨prog, w, h, os, mg, mb⟩ ∧ Free5 ⟨prog, w, h, os, mg, mb⟩ ∧ ∃ fa fd o, FnAt ⟨prog, w, h, os, mg, mb⟩ (Str.ofString "law") [Str.ofString "script"] (d5 6).body (d5 6).scope fa fd o := by
  subst hl
  refine ⟨⟨?_, ?_, ?_, ?_⟩, ⟨?_, ?_, ?_, ?_, ?_, ?_, ?_, ?_⟩, ?_⟩
  · refine FnAt_of_top T (d := d5 1) (by rw [recs5]; simp) ?_ (by decide) (by decide +kernel) (by decide +kernel) rfl rfl rfl
    intro pm code doc vals h
    match vals, h with
    | [a], _ => rfl
  · refine FnAt_of_top T (d := d5 2) (by rw [recs5]; simp) ?_ (by decide) (by decide +kernel) (by decide +kernel) rfl rfl rfl
    intro pm code doc vals h
    match vals, h with
    | [a, b, c], _ => rfl
  · refine FnAt_of_top T (d := d5 3) (by rw [recs5]; simp) ?_ (by decide) (by decide +kernel) (by decide +kernel) rfl rfl rfl
    intro pm code doc vals h
    match vals, h with
    | [a, b], _ => rfl
  · refine FnAt_of_top T (d := d5 5) (by rw [recs5]; simp) ?_ (by decide) (by decide +kernel) (by decide +kernel) rfl rfl rfl
    intro pm code doc vals h
    match vals, h with
    | [a], _ => rfl
  all_goals first | exact T.free _ (by decide +kernel) (by decide +kernel) (by decide +kernel) (by decide +kernel) (by decide +kernel) | skip
  · obtain ⟨_, ⟨o, _, _, ho, _⟩, _⟩ := T.nodigits
    exact ⟨_, o, by decide, ho⟩
  · refine FnAt_of_top T (d := d5 6) (by rw [recs5]; simp) ?_ (by decide) (by decide +kernel) (by decide +kernel) rfl rfl rfl
    intro pm code doc vals h
    match vals, h with
    | [a], _ => rfl
end Mine
open Mine
theorem PySem.Challenge.cw_dp0038_05_holds : PySem.Challenge.rw_dp0038_05.Holds := by
  refine hd5 ?_
  intro w s₀ s₁ mg mb G Y fa o pm cd doc dV kV ho hd hcd hD hmg hg args vals as hpre hlay hrd hwl hlo
  refine Ground.open G ?_
  intro T B D TE TW
  wrow_args hpre hlay hrd hwl hlo
  rename_i ns hs hlay0 hLy hr1 hl2 as1 as2 a vs as3 hL ra w1 r0 hI hr2 hc1 hc2
  obtain ⟨N, F, fa', fd', o', FL⟩ := top5 T rfl (prog := PySem.Challenge.rw_dp0038_05.row.prog) (w := w) (os := s₁.os)
  have efa : fa = fa' := by
    have e1 := FL.glob
    have e2 : mg (Str.ofString "law") = some (.ref fa) := hmg
    have e3 : mg (Str.ofString "law") = some (.ref fa') := e1
    rw [e2] at e3; cases e3; rfl
  subst efa
  have hsq : s₁.heap.get? a = some { cls := .type "list", data := .seq vs.toArray } := by
    cases w1 with
    | list e _ =>
      obtain ⟨o1, h1, _, k1, h2⟩ := hL
      rw [e] at h1; cases h1
      simp only [Data.seq.injEq] at h2
      obtain ⟨h2, _⟩ := h2
      rw [e, h2]
  have run := call_top (B := ⟨PySem.Challenge.rw_dp0038_05.row.prog, w, s₁.heap, s₁.os, mg, mb⟩) (n := 10) (A := callerA) ⟨T.g, T.b, T.builtins, T.nolimit⟩ rfl (by decide) (by decide) FL (s := s₁) (vs := [.ref a]) (Vs := [.lst (ns.map Val.int)]) rfl hg rfl
    (.cons (.lst hsq rfl (RVs.of_ints hI)) .nil) rfl (law_walk5 F N (by omega))
  refine wpAny_mono run ?_ fun _ _ e => e.elim
  rintro v s' ⟨V, σ', mem, rv, rfl, keep, hos, hgens⟩
  obtain rfl := rv.bool_inv
  refine GoodW.toG ⟨.inl ⟨.bool true, .bool true, [], rfl, fun _ => rfl, ?_, ?_, ?_⟩, keep, hos, hgens⟩
  · exact .bool true
  · wrow_post
  · intro _; exact ⟨List.nodup_nil, fun _ h => nomatch h⟩
end
