import PyProof.Rows.All
import Wide.All
import OpenK.AllK
import Wide.FinOn
import KE.KNestM
import Lean
import PySem.Challenge.RW_nq0219_01
set_option Elab.async false
noncomputable section
open PySem PySem.W PyProof.Rows PySem.Calls
set_option Elab.async false
namespace Mine

/-- lite values -/
inductive LV where
  | none | bool (b : Bool) | int (i : Int) | ref (a : Nat) | tup (vs : List LV) | raw (v : Value) | nxt (it : Nat) | rng (a b c : Int)

/-- lite objects -/
inductive LO where
  | list (xs : List LV)
  | dict (es : List (Int × LV)) (ep : Nat)
  | set (S : Int → Bool) (n : Nat)
  | iter (l : Nat) (i : Nat)
  | inst (C : Nat) (d : Nat) (fs : List (Option LV))
  | attrs (fs : List (String × LV))

structure LS where
  loc : String → Option LV
  heap : Nat → Option LO


def LS.put (σ : LS) (a : Nat) (o : LO) : LS := { σ with heap := fun b => if b = a then some o else σ.heap b }
def LS.set (σ : LS) (x : String) (v : LV) : LS := { σ with loc := fun y => if y = x then some v else σ.loc y }

abbrev tupObj (items : List Value) (n : Nat) : Obj := { cls := .type "tuple", data := .seq items.toArray n }
abbrev mwObj (it : Nat) : Obj := { cls := .type "method-wrapper", data := .fields #[.builtin "list_iterator.__next__", .ref it] }

mutual
inductive VRel (h : Heap) : LV → Value → Prop where
  | none : VRel h .none .none
  | bool (b : Bool) : VRel h (.bool b) (.bool b)
  | int (i : Int) (t : Tok) : VRel h (.int i) (.int i t)
  | ref (a : Nat) : VRel h (.ref a) (.ref a)
  | raw (v : Value) : VRel h (.raw v) v
  | tup {t : Nat} {vs : List LV} {items : List Value} {n : Nat} : h.get? t = some (tupObj items n) → VRels h vs items → VRel h (.tup vs) (.ref t)
  | nxt {it q : Nat} : h.get? q = some (mwObj it) → VRel h (.nxt it) (.ref q)
  | rng {r : Nat} {a b c : Int} {t u v : Tok} : h.get? r = some { cls := .type "range", data := .fields #[.int a t, .int b u, .int c v] } → VRel h (.rng a b c) (.ref r)
inductive VRels (h : Heap) : List LV → List Value → Prop where
  | nil : VRels h [] []
  | cons {a : LV} {v : Value} {as : List LV} {vs : List Value} : VRel h a v → VRels h as vs → VRels h (a :: as) (v :: vs)
end

/-- objects that never change once made: tuples, bound next's -/
def immObj (o : Obj) : Bool := match o.data with
  | .seq _ _ => o.cls == .type "tuple"
  | .fields _ => o.cls == .type "method-wrapper" || o.cls == .type "range"
  | _ => false
def Imm (h h' : Heap) : Prop := ∀ b o, h.get? b = some o → immObj o = true → h'.get? b = some o
theorem Imm.refl (h : Heap) : Imm h h := fun _ _ e _ => e
theorem Imm.trans {h₁ h₂ h₃ : Heap} (x : Imm h₁ h₂) (y : Imm h₂ h₃) : Imm h₁ h₃ := fun b o e i => y b o (x b o e i) i
theorem Imm.of_keeps {h h' : Heap} (k : ∀ b o, h.get? b = some o → h'.get? b = some o) : Imm h h' := fun b o e _ => k b o e
theorem Imm.of_extBut {h h' : Heap} {a : Addr} (k : Heap.ExtBut a h h') (n : ∀ o, h.get? a = some o → immObj o = false) : Imm h h' := fun b o e i => by
  by_cases q : b = a
  · subst q; rw [n o e] at i; cases i
  · exact k b o q e

theorem VRel.imm {h h' : Heap} (k : Imm h h') {a : LV} {v : Value} (x : VRel h a v) : VRel h' a v :=
  VRel.rec (motive_1 := fun a v _ => VRel h' a v) (motive_2 := fun a v _ => VRels h' a v) .none .bool .int .ref .raw (fun e _ ih => .tup (k _ _ e rfl) ih) (fun e => .nxt (k _ _ e rfl)) (fun e => .rng (k _ _ e rfl)) .nil (fun _ _ x r => .cons x r) x
theorem VRels.imm {h h' : Heap} (k : Imm h h') {a : List LV} {v : List Value} (x : VRels h a v) : VRels h' a v :=
  VRels.rec (motive_1 := fun a v _ => VRel h' a v) (motive_2 := fun a v _ => VRels h' a v) .none .bool .int .ref .raw (fun e _ ih => .tup (k _ _ e rfl) ih) (fun e => .nxt (k _ _ e rfl)) (fun e => .rng (k _ _ e rfl)) .nil (fun _ _ x r => .cons x r) x

theorem VRels.nil_inv {h : Heap} {xs : List Value} (r : VRels h [] xs) : xs = [] := by cases r; rfl
theorem VRels.cons_inv {h : Heap} {a : LV} {as : List LV} {xs : List Value} (r : VRels h (a :: as) xs) : ∃ v vs, xs = v :: vs ∧ VRel h a v ∧ VRels h as vs := by
  cases r with
  | cons x r => exact ⟨_, _, rfl, x, r⟩
/-- induction along the list -/
theorem VRels.ind {h : Heap} {P : List LV → List Value → Prop} (h0 : P [] []) (h1 : ∀ a as v vs, VRel h a v → VRels h as vs → P as vs → P (a :: as) (v :: vs)) {as : List LV} {vs : List Value} (r : VRels h as vs) : P as vs := by
  induction as generalizing vs with
  | nil => cases r.nil_inv; exact h0
  | cons a as ih => obtain ⟨v, ws, rfl, x, r⟩ := r.cons_inv; exact h1 a as v ws x r (ih r)
theorem VRels.length {h : Heap} {as : List LV} {vs : List Value} (r : VRels h as vs) : as.length = vs.length :=
  r.ind (P := fun as vs => as.length = vs.length) rfl fun _ _ _ _ _ _ ih => congrArg (· + 1) ih
theorem VRels.get {h : Heap} {as : List LV} {vs : List Value} (r : VRels h as vs) : ∀ {i : Nat} {a : LV}, as[i]? = some a → ∃ v, vs[i]? = some v ∧ VRel h a v :=
  r.ind (P := fun as vs => ∀ {i : Nat} {a : LV}, as[i]? = some a → ∃ v, vs[i]? = some v ∧ VRel h a v) (fun e => nomatch e) fun b _ v _ x _ ih i a e => by
    cases i with
    | zero => cases e; exact ⟨v, rfl, x⟩
    | succ i => exact ih e
theorem VRels.append {h : Heap} {as bs : List LV} {vs ws : List Value} (r : VRels h as vs) (q : VRels h bs ws) : VRels h (as ++ bs) (vs ++ ws) :=
  r.ind (P := fun as vs => VRels h (as ++ bs) (vs ++ ws)) q fun _ _ _ _ x _ ih => .cons x ih
theorem VRels.one {h : Heap} {a : LV} {v : Value} (x : VRel h a v) : VRels h [a] [v] := .cons x .nil
theorem VRels.take {h : Heap} {as : List LV} {vs : List Value} (n : Nat) (r : VRels h as vs) : VRels h (as.take n) (vs.take n) :=
  r.ind (P := fun as vs => ∀ n, VRels h (as.take n) (vs.take n)) (fun n => by cases n <;> exact .nil) (fun _ _ _ _ x _ ih n => by
    cases n with
    | zero => exact .nil
    | succ n => exact .cons x (ih n)) n
theorem VRels.drop {h : Heap} {as : List LV} {vs : List Value} (n : Nat) (r : VRels h as vs) : VRels h (as.drop n) (vs.drop n) :=
  r.ind (P := fun as vs => ∀ n, VRels h (as.drop n) (vs.drop n)) (fun n => by cases n <;> exact .nil) (fun _ _ _ _ x r ih n => by
    cases n with
    | zero => exact .cons x r
    | succ n => exact ih n) n
theorem VRels.set {h : Heap} {as : List LV} {vs : List Value} (i : Nat) {a : LV} {v : Value} (r : VRels h as vs) (y : VRel h a v) : VRels h (as.set i a) (vs.set i v) :=
  r.ind (P := fun as vs => ∀ i, VRels h (as.set i a) (vs.set i v)) (fun i => by cases i <;> exact .nil) (fun _ _ _ _ x r ih i => by
    cases i with
    | zero => exact .cons y r
    | succ i => exact .cons x (ih i)) i

def OV (h : Heap) : Option LV → Option Value → Prop
  | none, none => True
  | some a, some v => VRel h a v
  | _, _ => False
theorem OV.imm {h h' : Heap} (k : Imm h h') {a : Option LV} {v : Option Value} (x : OV h a v) : OV h' a v := by
  cases a <;> cases v <;> first | exact x | exact VRel.imm k x
theorem OV.some_left {h : Heap} {a : LV} {v : Option Value} (x : OV h (some a) v) : ∃ y, v = some y ∧ VRel h a y := by
  cases v with
  | none => exact x.elim
  | some y => exact ⟨y, rfl, x⟩

/-- no list of the lite heap is longer than this -/
def cap : Nat := 100000
theorem cap_le : cap ≤ sizeLine := by decide

inductive ERel (h : Heap) : List (Int × LV) → List (Int × Value) → Prop
  | nil : ERel h [] []
  | cons {k : Int} {a : LV} {v : Value} {es : List (Int × LV)} {kvs : List (Int × Value)} : VRel h a v → ERel h es kvs → ERel h ((k, a) :: es) ((k, v) :: kvs)
inductive FRel (P : Params) (h : Heap) : List (String × LV) → List DictEntry → Prop
  | nil : FRel P h [] []
  | cons {k : String} {t : Tok} {a : LV} {v : Value} {fs : List (String × LV)} {es : List DictEntry} : VRel h a v → FRel P h fs es → FRel P h ((k, a) :: fs) (⟨PyData.keyHash P (Str.ofString k), .str (Str.ofString k) t, v⟩ :: es)
inductive OVs (h : Heap) : List (Option LV) → List (Option Value) → Prop
  | nil : OVs h [] []
  | cons {a : Option LV} {v : Option Value} {as : List (Option LV)} {vs : List (Option Value)} : OV h a v → OVs h as vs → OVs h (a :: as) (v :: vs)
theorem ERel.imm {h h' : Heap} (k : Imm h h') {a v} (r : ERel h a v) : ERel h' a v := by
  induction r with
  | nil => exact .nil
  | cons x _ ih => exact .cons (x.imm k) ih
theorem FRel.imm {P : Params} {h h' : Heap} (k : Imm h h') {a v} (r : FRel P h a v) : FRel P h' a v := by
  induction r with
  | nil => exact .nil
  | cons x _ ih => exact .cons (x.imm k) ih
theorem OVs.imm {h h' : Heap} (k : Imm h h') {a v} (r : OVs h a v) : OVs h' a v := by
  induction r with
  | nil => exact .nil
  | cons x _ ih => exact .cons (x.imm k) ih

def ORel (prog : Program) (w : World) (h : Heap) (a : Addr) : LO → Prop
  | .list xs => xs.length ≤ cap ∧ ∃ items n, IsL h a items n ∧ VRels h xs items.toList
  | .dict es ep => es.length ≤ cap ∧ ∃ kvs, h.DictAt (intKind prog w) a kvs ep ∧ ERel h es kvs
  | .set S n => n ≤ cap ∧ h.SetOf (intKind prog w) a S n
  | .iter l i => h.get? a = some { cls := .type "list_iterator", data := .fields #[.ref l, .int i 0] }
  | .inst C d fs => ∃ sl, h.get? a = some { cls := .ref C, dict := some d, data := .plain, slots := sl } ∧ OVs h fs sl.toList
  | .attrs fs => ∃ es n, h.get? a = some (dictOf es n) ∧ FRel w.params h fs es

/-- what stands at a lite address is no tuple and no bound next -/
theorem ORel.notImm {prog : Program} {w : World} {h : Heap} {a : Addr} {o : LO} (r : ORel prog w h a o) : ∃ ob, h.get? a = some ob ∧ immObj ob = false := by
  cases o with
  | list xs => obtain ⟨_, items, n, e, _⟩ := r; exact ⟨_, e, rfl⟩
  | dict es ep =>
    obtain ⟨_, kvs, e, _⟩ := r
    obtain ⟨ob, es', e1, e2, e3, _⟩ := e
    exact ⟨ob, e1, by rw [immObj, e3]⟩
  | set S n =>
    obtain ⟨_, ob, es, ep, t, e1, e2, e3, _⟩ := r
    exact ⟨ob, e1, by rw [immObj, e3]⟩
  | iter l i => exact ⟨_, r, rfl⟩
  | inst C d fs => obtain ⟨sl, e, _⟩ := r; exact ⟨_, e, rfl⟩
  | attrs fs => obtain ⟨es, n, e, _⟩ := r; exact ⟨_, e, rfl⟩

/-- a lite object stands on where its own real object and the immutable ones stand on -/
theorem ORel.move {prog : Program} {w : World} {h h' : Heap} {a : Addr} {o : LO} (r : ORel prog w h a o) (k : Imm h h') (e : ∀ ob, h.get? a = some ob → h'.get? a = some ob) : ORel prog w h' a o := by
  cases o with
  | list xs => obtain ⟨hl, items, n, e1, e2⟩ := r; exact ⟨hl, items, n, e _ e1, e2.imm k⟩
  | dict es ep =>
    obtain ⟨hl, kvs, ⟨ob, es', e1, e2⟩, e3⟩ := r
    exact ⟨hl, kvs, ⟨ob, es', e _ e1, e2⟩, e3.imm k⟩
  | set S n =>
    obtain ⟨hl, ob, es, ep, t, e1, e2⟩ := r
    exact ⟨hl, ob, es, ep, t, e _ e1, e2⟩
  | iter l i => exact e _ r
  | inst C d fs => obtain ⟨sl, e1, e2⟩ := r; exact ⟨sl, e _ e1, e2.imm k⟩
  | attrs fs => obtain ⟨es, n, e1, e2⟩ := r; exact ⟨es, n, e _ e1, e2.imm k⟩

/-- iterators whose whole object the library's rules ask for -/
def exactO (o : Obj) : Bool := match o.data with
  | .fields _ => o.cls == .type "range_iterator" || o.cls == .type "dict_itemiterator" || o.cls == .type "enumerate" || o.cls == .type "method"
  | _ => false

structure Cx where
  base : Heap
  G : List (Addr × Obj)
  gens : Array GenState
  os : OsState
  drawn : Drawn

structure Rel (prog : Program) (w : World) (c : Cx) (env : Env) (σ : LS) (s : Shared) : Prop where
  keep : ∀ b o, c.base.get? b = some o → s.heap.get? b = some o
  guard : ∀ p ∈ c.G, ∃ o, s.heap.get? p.1 = some o ∧ o.cls = p.2.cls ∧ o.data = p.2.data ∧ (exactO p.2 = true → o = p.2)
  ns : ∃ m, s.heap.Ns env.locals m ∧ ∀ x : String, env.kindOf (Str.ofString x) = some .local → OV s.heap (σ.loc x) (m (Str.ofString x))
  cell : ∀ (x : String), (env.kindOf (Str.ofString x) = some .cell ∨ env.kindOf (Str.ofString x) = some .free) → ∃ a v, env.cells.lookup (Str.ofString x) = some a ∧ s.heap.IsCell a v ∧ OV s.heap (σ.loc x) v
  cin : ∀ y ∈ env.cells, ∃ v, s.heap.IsCell y.2 v
  obj : ∀ a o, σ.heap a = some o → ORel prog w s.heap a o
  dom : ∀ a o, σ.heap a = some o → c.base.get? a = none ∧ a ≠ env.locals ∧ (∀ p ∈ c.G, p.1 ≠ a) ∧ (∀ y ∈ env.cells, y.2 ≠ a)
  gens : s.gens = c.gens
  os : s.os = c.os
  drawn : s.drawn = c.drawn

structure Sep (c : Cx) (env : Env) : Prop where
  above : c.base.objs.size ≤ env.locals
  gL : ∀ p ∈ c.G, p.1 ≠ env.locals
  cellL : ∀ y ∈ env.cells, y.2 ≠ env.locals
  cellB : ∀ y ∈ env.cells, c.base.get? y.2 = none
  cellU : ∀ y ∈ env.cells, ∀ y' ∈ env.cells, y.2 = y'.2 → y.1 = y'.1
  gOwn : ∀ p ∈ c.G, ∀ y ∈ env.cells, env.locals < y.2 → p.1 ≠ y.2
  kind : env.scope.kind = .function
  glob : env.globals = mainGlobals
  bui : env.builtins = builtinsNs

end Mine
end
noncomputable section
open PySem PySem.W PyProof.Rows PySem.Calls
set_option Elab.async false
namespace Mine

structure LX where
  name : String
  ctx : Bool

abbrev PTx (α : Type) := (α → LS → Prop) → (LX → LS → Prop) → LS → Prop

/-- what the walk knows of the text's top: the global names, the objects that are written out -/
structure TopS where
  gl : String → Option Value
  K : Frag
  hnd : Bool
  scr : Option (Addr × List Int)
structure TopF (TS : TopS) (h : Heap) : Prop where
  nolimit : h.NoLimit
  globs : ∃ mg mb, h.Ns mainGlobals mg ∧ h.Ns builtinsNs mb ∧ ∀ x v, TS.gl x = some v → mg (Str.ofString x) = some v ∨ (mg (Str.ofString x) = none ∧ mb (Str.ofString x) = some v)
  kin : TS.K.In h
  sysm : ∃ o, h.get? sysModules = some o
  scr : ∀ a is, TS.scr = some (a, is) → ∃ items, h.IsList a items ∧ IntsAre items.toList is ∧ items.size ≤ sizeLine

structure WF (TS : TopS) (n : Nat) (c : Cx) (A : Around) (env : Env) : Prop where
  sep : Sep c env
  room : A.depth + n < recursionLimit
  units : A.units + 64 * n < cLine
  top : TopF TS c.base
  frl : ∀ L, env.frame = some L → L ≤ env.locals
  hand : TS.hnd = true → ∀ e0, A.handled = some (.ref e0) → ∃ o vs, (e0, o) ∈ c.G ∧ o.data = .fields vs ∧ vs[2]? = some .none
  fr : env.frame = some env.locals → ∃ outer, A.frames = some (env :: outer) ∧ ∀ e ∈ outer, e.scope.kind ≠ .module ∧ ∃ L o, e.frame = some L ∧ (L, o) ∈ c.G ∧ c.base.get? L = none ∧ ∃ es ep, o.data = .dict es ep

/-- an address that nothing of the lite state's stands at -/
def Off (c : Cx) (σ : LS) (a : Addr) : Prop := c.base.get? a = none ∧ σ.heap a = none ∧ ∀ p ∈ c.G, p.1 ≠ a
structure ExcOb (c : Cx) (σ : LS) (h : Heap) (x : LX) (ea : Addr) (oe : Obj) (vs : Array Value) : Prop where
  at_ : h.get? ea = some oe
  cls : oe.cls = .type x.name
  name : x.name = "IndexError" ∨ x.name = "StopIteration"
  data : oe.data = .fields vs
  off : Off c σ ea
  size : 2 < vs.size
  ctx : x.ctx = false → vs[2]? = some .none
structure TbOb (c : Cx) (σ : LS) (h : Heap) (fl : Value) (T : Addr) (oT : Obj) (ts : Array Value) : Prop where
  at_ : h.get? T = some oT
  cls : oT.cls = .type "traceback"
  data : oT.data = .fields ts
  fl : ts[3]? = some fl
  off : Off c σ T
/-- an exception on its way, inside the frame of env -/
def ExcAt (c : Cx) (env : Env) (σ : LS) (h : Heap) (x : LX) (e : Value) : Prop :=
  ∃ ea oe vs, e = .ref ea ∧ ExcOb c σ h x ea oe vs ∧ (vs[1]? = some .none ∨ ∃ T oT ts, vs[1]? = some (.ref T) ∧ TbOb c σ h (rawInt env.locals) T oT ts)
/-- an exception that is noted in a frame, its flight being fl -/
def ExcTb (c : Cx) (σ : LS) (h : Heap) (x : LX) (e : Value) (fl : Value) : Prop :=
  ∃ ea oe vs T oT ts, e = .ref ea ∧ ExcOb c σ h x ea oe vs ∧ vs[1]? = some (.ref T) ∧ TbOb c σ h fl T oT ts
theorem ExcTb.at {c : Cx} {env : Env} {σ : LS} {h : Heap} {x : LX} {e : Value} (y : ExcTb c σ h x e (rawInt env.locals)) : ExcAt c env σ h x e :=
  by obtain ⟨ea, oe, vs, T, oT, ts, a, b, d, f⟩ := y; exact ⟨ea, oe, vs, a, b, .inr ⟨T, oT, ts, d, f⟩⟩

section
variable (prog : Program) (w : World) (TS : TopS)

def Post {α β : Type} (c : Cx) (env : Env) (R : Heap → β → α → Prop) (h0 : Heap) (Q : β → LS → Prop) : α → Shared → Prop :=
  fun v s' => ∃ lv σ', R s'.heap lv v ∧ Rel prog w c env σ' s' ∧ Imm h0 s'.heap ∧ Q lv σ'
def EPost (c : Cx) (env : Env) (h0 : Heap) (E : LX → LS → Prop) : Value → Shared → Prop :=
  fun e s' => ∃ x σ', ExcAt c env σ' s'.heap x e ∧ Rel prog w c env σ' s' ∧ Imm h0 s'.heap ∧ E x σ'

def At {α β : Type} (c : Cx) (A : Around) (env : Env) (t : Sem α) (R : Heap → β → α → Prop) (m : PTx β) (σ : LS) (s : Shared) : Prop :=
  ∀ Q E, m Q E σ → wpAny (model prog w) A t (Post prog w c env R s.heap Q) (EPost prog w c env s.heap E) s

/-- a tree refines a transformer -/
def Sim {α β : Type} (n : Nat) (A : Around) (env : Env) (t : Sem α) (R : Heap → β → α → Prop) (m : PTx β) : Prop :=
  ∀ c σ s, WF TS n c A env → Rel prog w c env σ s → At prog w c A env t R m σ s
def Sim1 {α β : Type} (n : Nat) (A : Around) (env : Env) (f : Value → Sem α) (R : Heap → β → α → Prop) (m : LV → PTx β) : Prop :=
  ∀ c σ s a x, WF TS n c A env → Rel prog w c env σ s → VRel s.heap a x → At prog w c A env (f x) R (m a) σ s
def Sim2 {α β : Type} (n : Nat) (A : Around) (env : Env) (f : Value → Value → Sem α) (R : Heap → β → α → Prop) (m : LV → LV → PTx β) : Prop :=
  ∀ c σ s a x b y, WF TS n c A env → Rel prog w c env σ s → VRel s.heap a x → VRel s.heap b y → At prog w c A env (f x y) R (m a b) σ s
def SimL {α β : Type} (n : Nat) (A : Around) (env : Env) (f : List Value → Sem α) (R : Heap → β → α → Prop) (m : List LV → PTx β) : Prop :=
  ∀ c σ s as xs, WF TS n c A env → Rel prog w c env σ s → VRels s.heap as xs → At prog w c A env (f xs) R (m as) σ s
end

/-- plain results: bools, units -/
def REq {α : Type} (_ : Heap) (a b : α) : Prop := a = b

inductive LF where
  | next | brk | cont | ret (v : LV)
inductive FlRel (h : Heap) : LF → Flow → Prop
  | next : FlRel h .next .next
  | brk : FlRel h .brk .brk
  | cont : FlRel h .cont .cont
  | ret {a : LV} {v : Value} : VRel h a v → FlRel h (.ret a) (.ret v)

abbrev pret {α : Type} (a : α) : PTx α := fun Q _ σ => Q a σ
abbrev pbind {α β : Type} (m : PTx α) (f : α → PTx β) : PTx β := fun Q E σ => m (fun a σ' => f a Q E σ') E σ
abbrev pfail {α : Type} : PTx α := fun _ _ _ => False

section
variable {prog : Program} {w : World} {TS : TopS} {c : Cx} {A : Around} {env : Env} {σ : LS} {s : Shared} {n : Nat}

theorem Post.imm {α β : Type} {R : Heap → β → α → Prop} {h0 h1 : Heap} {Q : β → LS → Prop} {v : α} {s' : Shared} (k : Imm h0 h1) (p : Post prog w c env R h1 Q v s') : Post prog w c env R h0 Q v s' := by
  obtain ⟨lv, σ', a, b, d, e⟩ := p; exact ⟨lv, σ', a, b, k.trans d, e⟩
theorem EPost.imm {h0 h1 : Heap} {E : LX → LS → Prop} {v : Value} {s' : Shared} (k : Imm h0 h1) (p : EPost prog w c env h1 E v s') : EPost prog w c env h0 E v s' := by
  obtain ⟨lv, σ', a, b, d, e⟩ := p; exact ⟨lv, σ', a, b, k.trans d, e⟩




theorem Rel.toks (h : Rel prog w c env σ s) (tk : Nat) : Rel prog w c env σ { s with toks := tk } := ⟨h.keep, h.guard, h.ns, h.cell, h.cin, h.obj, h.dom, h.gens, h.os, h.drawn⟩

/-- where only what no fact names is changed, all stands on -/
theorem Rel.keeps (h : Rel prog w c env σ s) {h' : Heap} {tk : Nat} (k : ∀ b o, s.heap.get? b = some o → h'.get? b = some o) : Rel prog w c env σ { s with heap := h', toks := tk } := by
  have im := Imm.of_keeps k
  obtain ⟨m, n1, n2⟩ := h.ns
  exact ⟨fun b o e => k b o (h.keep b o e), fun p hp => (h.guard p hp).imp fun _ e => ⟨k _ _ e.1, e.2⟩, ⟨m, n1.keeps k, fun x q => (n2 x q).imm im⟩,
    fun x q => by obtain ⟨a, v, e1, e2, e3⟩ := h.cell x q; exact ⟨a, v, e1, e2.keeps k, e3.imm im⟩,
    fun y hy => (h.cin y hy).imp fun v e => e.keeps k,
    fun a o e => (h.obj a o e).move im fun ob eb => k _ _ eb, h.dom, h.gens, h.os, h.drawn⟩

/-- an object of no one's turned: the address a is none that Rel speaks of -/
theorem Rel.extBut (h : Rel prog w c env σ s) {h' : Heap} {tk : Nat} {a : Addr} (k : Heap.ExtBut a s.heap h') (ni : ∀ o, s.heap.get? a = some o → immObj o = false)
    (hb : c.base.get? a = none) (hl : a ≠ env.locals) (hg : ∀ p ∈ c.G, p.1 ≠ a) (hc : ∀ y ∈ env.cells, y.2 ≠ a) (ho : σ.heap a = none) : Rel prog w c env σ { s with heap := h', toks := tk } := by
  have im := Imm.of_extBut k ni
  obtain ⟨m, n1, n2⟩ := h.ns
  refine ⟨fun b o e => k b o (fun q => by rw [q, hb] at e; cases e) (h.keep b o e), fun p hp => (h.guard p hp).imp fun _ e => ⟨k _ _ (hg p hp) e.1, e.2⟩, ⟨m, n1.extBut k (Ne.symm hl), fun x q => (n2 x q).imm im⟩,
    fun x q => ?_, fun y hy => (h.cin y hy).imp fun v ⟨oc, c1, c2⟩ => ⟨oc, k _ oc (hc y hy) c1, c2⟩,
    fun b o e => (h.obj b o e).move im fun ob eb => k _ _ (fun q => by rw [q, ho] at e; cases e) eb, h.dom, h.gens, h.os, h.drawn⟩
  obtain ⟨b, v, e1, ⟨oc, c1, c2⟩, e3⟩ := h.cell x q
  exact ⟨b, v, e1, ⟨oc, k b oc (hc (_, b) (mem_of_lookup e1)) c1, c2⟩, e3.imm im⟩

/-- a lite object turned -/
theorem Rel.update (h : Rel prog w c env σ s) {h' : Heap} {tk : Nat} {a : Addr} {o o' : LO} (e : σ.heap a = some o) (k : Heap.ExtBut a s.heap h') (r : ORel prog w h' a o') : Rel prog w c env (σ.put a o') { s with heap := h', toks := tk } := by
  obtain ⟨d1, d2, d3, d4⟩ := h.dom a o e
  obtain ⟨ob, e1, e2⟩ := (h.obj a o e).notImm
  have im := Imm.of_extBut k (fun o q => by rw [e1] at q; cases q; exact e2)
  obtain ⟨m, n1, n2⟩ := h.ns
  refine ⟨fun b o e => k b o (fun q => by rw [q, d1] at e; cases e) (h.keep b o e), fun p hp => (h.guard p hp).imp fun _ e => ⟨k _ _ (d3 p hp) e.1, e.2⟩, ⟨m, n1.extBut k (Ne.symm d2), fun x q => (n2 x q).imm im⟩,
    fun x q => ?_, fun y hy => (h.cin y hy).imp fun v ⟨oc, c1, c2⟩ => ⟨oc, k _ oc (d4 y hy) c1, c2⟩, fun b o₂ e₂ => ?_, fun b o₂ e₂ => ?_, h.gens, h.os, h.drawn⟩
  · obtain ⟨b, v, e1, ⟨oc, c1, c2⟩, e3⟩ := h.cell x q
    exact ⟨b, v, e1, ⟨oc, k b oc (d4 (_, b) (mem_of_lookup e1)) c1, c2⟩, e3.imm im⟩
  · simp only [LS.put] at e₂
    by_cases q : b = a
    · subst q; simp at e₂; subst e₂; exact r
    · simp [q] at e₂; exact (h.obj b o₂ e₂).move im fun ob eb => k _ _ q eb
  · simp only [LS.put] at e₂
    by_cases q : b = a
    · subst q; exact ⟨d1, d2, d3, d4⟩
    · simp [q] at e₂; exact h.dom b o₂ e₂
theorem Rel.update_imm (h : Rel prog w c env σ s) {h' : Heap} {a : Addr} {o : LO} (e : σ.heap a = some o) (k : Heap.ExtBut a s.heap h') : Imm s.heap h' := by
  obtain ⟨ob, e1, e2⟩ := (h.obj a o e).notImm
  exact Imm.of_extBut k (fun o q => by rw [e1] at q; cases q; exact e2)

/-- the next address is none's -/
theorem Rel.fresh_base (h : Rel prog w c env σ s) : c.base.get? s.heap.objs.size = none := by
  cases q : c.base.get? s.heap.objs.size with
  | none => rfl
  | some o => exact absurd (Heap.lt_size (h.keep _ _ q)) (Nat.lt_irrefl _)
theorem Rel.fresh_obj (h : Rel prog w c env σ s) : σ.heap s.heap.objs.size = none := by
  cases q : σ.heap s.heap.objs.size with
  | none => rfl
  | some o => obtain ⟨ob, e, _⟩ := (h.obj _ o q).notImm; exact absurd (Heap.lt_size e) (Nat.lt_irrefl _)
theorem Rel.fresh_loc (h : Rel prog w c env σ s) : s.heap.objs.size ≠ env.locals := by
  obtain ⟨m, n1, _⟩ := h.ns
  exact Nat.ne_of_gt n1.lt
theorem Rel.fresh_G (h : Rel prog w c env σ s) : ∀ p ∈ c.G, p.1 ≠ s.heap.objs.size := fun p hp q => by
  obtain ⟨og, e, _⟩ := h.guard p hp
  rw [q] at e; exact absurd (Heap.lt_size e) (Nat.lt_irrefl _)

theorem Rel.fresh_cell (h : Rel prog w c env σ s) : ∀ y ∈ env.cells, y.2 ≠ s.heap.objs.size := fun y hy q => by
  obtain ⟨v, oc, e, _⟩ := h.cin y hy
  rw [q] at e; exact absurd (Heap.lt_size e) (Nat.lt_irrefl _)

/-- a new lite object -/
theorem Rel.alloc (h : Rel prog w c env σ s) {h' : Heap} {tk : Nat} {o : LO} (k : ∀ b o, s.heap.get? b = some o → h'.get? b = some o) (r : ORel prog w h' s.heap.objs.size o) :
    Rel prog w c env (σ.put s.heap.objs.size o) { s with heap := h', toks := tk } := by
  have q := h.keeps (tk := tk) k
  refine ⟨q.keep, q.guard, q.ns, q.cell, q.cin, fun b o₂ e₂ => ?_, fun b o₂ e₂ => ?_, h.gens, h.os, h.drawn⟩
  · simp only [LS.put] at e₂
    by_cases z : b = s.heap.objs.size
    · rw [if_pos z] at e₂; cases e₂; rw [z]; exact r
    · rw [if_neg z] at e₂; exact q.obj b o₂ e₂
  · simp only [LS.put] at e₂
    by_cases z : b = s.heap.objs.size
    · rw [z]; exact ⟨h.fresh_base, h.fresh_loc, h.fresh_G, h.fresh_cell⟩
    · rw [if_neg z] at e₂; exact h.dom b o₂ e₂
end
end Mine
end
noncomputable section
open PySem PySem.W PyProof.Rows PySem.Calls
set_option Elab.async false
namespace Mine

abbrev pget (x : String) : PTx LV := fun Q _ σ => ∃ v, σ.loc x = some v ∧ Q v σ
abbrev pset (x : String) (v : LV) : PTx Unit := fun Q _ σ => Q () (σ.set x v)

def nameOk (env : Env) (x : String) : Bool := match env.kindOf (Str.ofString x) with
  | some .local | some .cell | some .free => x != "__debug__" && x != "__classdict__"
  | _ => false
def StoreOk (env : Env) (x : String) : Prop := env.kindOf (Str.ofString x) = some .local ∨ (env.kindOf (Str.ofString x) = some .cell ∧ ∃ a, env.cells.lookup (Str.ofString x) = some a ∧ env.locals < a)

theorem ofString_inj {a b : String} : Str.ofString a = Str.ofString b ↔ a = b := by
  constructor
  · intro h
    rw [Str.ofString_eq_toList, Str.ofString_eq_toList] at h
    have h2 : a.toList.map Char.toNat = b.toList.map Char.toNat := by simpa using congrArg Str.cps h
    have h3 : a.toList = b.toList := (List.map_inj_right (fun x y e => Char.ext (UInt32.toNat_inj.mp e))).mp h2
    exact String.toList_inj.mp h3
  · rintro rfl; rfl

theorem notImm_ns {h : Heap} {L : Addr} {m : Str → Option Value} (n1 : h.Ns L m) : ∀ o, h.get? L = some o → immObj o = false := fun o e => by
  obtain ⟨o', es, ep, e1, e2, _⟩ := n1
  rw [e] at e1; cases e1
  rw [immObj, e2]
theorem notImm_cell {h : Heap} {L : Addr} {v : Option Value} (n1 : h.IsCell L v) : ∀ o, h.get? L = some o → immObj o = false := fun o e => by
  obtain ⟨o', e1, e2⟩ := n1
  rw [e] at e1; cases e1
  rw [immObj, e2]

section
variable {prog : Program} {w : World} {TS : TopS} {c : Cx} {A : Around} {env : Env} {σ : LS} {s : Shared} {n : Nat}

theorem at_load {x : String} (hk : nameOk env x = true) (hf : env.scope.kind = .function) (h : Rel prog w c env σ s) : At prog w c A env (loadName env (Str.ofString x)) VRel (pget x) σ s := by
  intro Q E q
  obtain ⟨v, hv, q⟩ := q
  unfold nameOk at hk
  obtain ⟨m, n1, n2⟩ := h.ns
  cases hx : env.kindOf (Str.ofString x) with
  | none => rw [hx] at hk; cases hk
  | some k =>
    rw [hx] at hk
    cases k with
    | «local» =>
      obtain ⟨y, hy, hr⟩ := OV.some_left (hv ▸ n2 x hx)
      exact wpAny_loadName_local hf hx n1 hy ⟨v, σ, hr, h, Imm.refl _, q⟩
    | cell =>
      obtain ⟨a, v', e1, e2, e3⟩ := h.cell x (.inl hx)
      obtain ⟨y, rfl, hr⟩ := OV.some_left (hv ▸ e3)
      exact wpAny_loadName_cell hf hx e1 e2 ⟨v, σ, hr, h, Imm.refl _, q⟩
    | free =>
      obtain ⟨a, v', e1, e2, e3⟩ := h.cell x (.inr hx)
      obtain ⟨y, rfl, hr⟩ := OV.some_left (hv ▸ e3)
      refine wpAny_loadName_free hf hx e1 e2 ⟨v, σ, hr, h, Imm.refl _, q⟩ ?_
      rw [Bool.and_eq_true_iff] at hk
      rw [beq_eq_false_iff_ne]
      intro z
      have := ofString_inj.mp z
      subst this
      exact absurd hk.2 (by decide)
    | _ => cases hk

theorem sim_Name {x : String} {pos : Pos} (hk : nameOk env x = true) : Sim prog w TS n A env (eval (.Name (Str.ofString x) pos) env) VRel (pget x) := fun c σ s W h Q E q => by
  refine wpAny_Name (at_load hk W.sep.kind h Q E q) ?_
  rw [beq_eq_false_iff_ne]
  intro z
  have := ofString_inj.mp z
  subst this
  unfold nameOk at hk
  split at hk <;> first | (exact absurd hk (by decide)) | cases hk

theorem at_store {x : String} {a : LV} {v : Value} (hk : StoreOk env x) (W : WF TS n c A env) (h : Rel prog w c env σ s) (hv : VRel s.heap a v) : At prog w c A env (storeName env (Str.ofString x) v) REq (pset x a) σ s := by
  intro Q E q
  obtain ⟨m, n1, n2⟩ := h.ns
  rcases hk with hx | ⟨hx, d, e1, hlt⟩
  ·   skip
      refine wpAny_storeName_local hx n1 (fun h' hn hs => ?_) (by rw [W.sep.kind]; rfl)
      have im := Imm.of_extBut hs.extBut (notImm_ns n1)
      refine ⟨(), σ.set x a, rfl, ?_, im, q⟩
      refine ⟨fun b o e => (hs.2 b ?_).trans (h.keep b o e), fun p hp => (h.guard p hp).imp fun _ e => ⟨(hs.2 _ (W.sep.gL p hp)).trans e.1, e.2⟩, ⟨_, hn, fun y hy => ?_⟩, fun y hy => ?_, fun y hy => ?_, fun b o e => ?_, h.dom, h.gens, h.os, h.drawn⟩
      · exact Nat.ne_of_lt (Nat.lt_of_lt_of_le (Heap.lt_size e) W.sep.above)
      · show OV h' (if y = x then some a else σ.loc y) (if Str.ofString y = Str.ofString x then some v else m (Str.ofString y))
        by_cases z : y = x
        · subst z; simp; exact hv.imm im
        · rw [if_neg z, if_neg (fun q => z (ofString_inj.mp q))]; exact (n2 y hy).imm im
      · obtain ⟨b, v', e1, e2, e3⟩ := h.cell y hy
        refine ⟨b, v', e1, e2.sameBut hs (W.sep.cellL (_, b) (mem_of_lookup e1)), ?_⟩
        show OV h' (if y = x then some a else σ.loc y) v'
        rw [if_neg (by rintro rfl; rcases hy with hy | hy <;> (rw [hx] at hy; cases hy))]
        exact e3.imm im
      · exact (h.cin y hy).imp fun v' e => e.sameBut hs (W.sep.cellL y hy)
      · exact (h.obj b o e).move im fun ob eb => (hs.2 _ (h.dom b o e).2.1).trans eb
  ·   obtain ⟨d', v₀, e1', e2, e3⟩ := h.cell x (.inl hx)
      rw [e1] at e1'; cases e1'
      have hd := mem_of_lookup e1
      refine wpAny_storeName_cell W.sep.kind hx e1 e2 (fun h' hn hs => ?_)
      have im := Imm.of_extBut hs.extBut (notImm_cell e2)
      refine ⟨(), σ.set x a, rfl, ?_, im, q⟩
      refine ⟨fun b o e => (hs.2 b ?_).trans (h.keep b o e), fun p hp => (h.guard p hp).imp fun _ e => ⟨(hs.2 _ ?_).trans e.1, e.2⟩, ⟨m, n1.sameBut hs (Ne.symm (W.sep.cellL _ hd)), fun y hy => ?_⟩, fun y hy => ?_, fun y hy => ?_, fun b o e => ?_, h.dom, h.gens, h.os, h.drawn⟩
      · rintro rfl; rw [W.sep.cellB _ hd] at e; cases e
      · exact W.sep.gOwn p hp _ hd hlt
      · show OV h' (if y = x then some a else σ.loc y) (m (Str.ofString y))
        rw [if_neg (by rintro rfl; rw [hx] at hy; cases hy)]
        exact (n2 y hy).imm im
      · obtain ⟨b, v', f1, f2, f3⟩ := h.cell y hy
        show ∃ a_1 v_1, env.cells.lookup (Str.ofString y) = some a_1 ∧ h'.IsCell a_1 v_1 ∧ OV h' (if y = x then some a else σ.loc y) v_1
        by_cases z : y = x
        · subst z; simp only [if_true]; exact ⟨d, some v, e1, hn, hv.imm im⟩
        · rw [if_neg z]
          refine ⟨b, v', f1, f2.sameBut hs (fun q => z (ofString_inj.mp ?_)), f3.imm im⟩
          exact W.sep.cellU _ (mem_of_lookup f1) _ hd q
      · by_cases z : y.2 = d
        · rw [z]; exact ⟨_, hn⟩
        · exact (h.cin y hy).imp fun v' e => e.sameBut hs z
      · exact (h.obj b o e).move im fun ob eb => (hs.2 _ (Ne.symm ((h.dom b o e).2.2.2 _ hd))).trans eb
end
end Mine
end
noncomputable section
open PySem PySem.W PyProof.Rows PySem.Calls
set_option Elab.async false
set_option linter.unusedVariables false
namespace Mine
section
variable {prog : Program} {w : World} {TS : TopS} {c : Cx} {A : Around} {env : Env} {σ : LS} {s : Shared} {n : Nat}

theorem Rel.funFrames (W : WF TS n c A env) (r : Rel prog w c env σ s) (hf : env.frame = some env.locals) :
    ∃ outer, A.frames = some (env :: outer) ∧ s.heap.FunFrames c.base (env :: outer) ∧ ∀ a ∈ (env :: outer).filterMap (·.frame), a = env.locals ∨ ∃ o es ep, (a, o) ∈ c.G ∧ o.data = .dict es ep := by
  obtain ⟨outer, h1, h2⟩ := W.fr hf
  have hbase : c.base.get? env.locals = none := by
    cases q : c.base.get? env.locals with
    | none => rfl
    | some o => exact absurd (Nat.lt_of_lt_of_le (Heap.lt_size q) W.sep.above) (Nat.lt_irrefl _)
  refine ⟨outer, h1, ?_, ?_⟩
  · obtain ⟨m, ⟨oL, es, ep, e1, e2, _⟩, _⟩ := r.ns
    refine ⟨by rw [W.sep.kind]; decide, ⟨env.locals, oL, hf, hbase, e1, fun vs q => by rw [e2] at q; cases q⟩, ?_⟩
    clear h1
    induction outer with
    | nil => trivial
    | cons e r' ih =>
      obtain ⟨k1, L, o, k2, k3, k4, es, ep, k5⟩ := h2 e (.head _)
      obtain ⟨og, g, g1, g2, _⟩ := r.guard _ k3
      refine ⟨k1, ⟨L, _, k2, k4, g, fun vs q => ?_⟩, ih fun e' he' => h2 e' (.tail _ he')⟩
      have q' : o.data = .fields vs := g2.symm.trans q
      rw [k5] at q'; cases q'
  · intro a ha
    obtain ⟨e, he, hfe⟩ := List.mem_filterMap.mp ha
    rcases List.mem_cons.mp he with rfl | he
    · rw [hf] at hfe; exact .inl (Option.some.inj hfe).symm
    · obtain ⟨k1, L, o, k2, k3, k4, es, ep, k5⟩ := h2 e he
      rw [k2] at hfe; cases hfe
      exact .inr ⟨o, es, ep, k3, k5⟩

/-- slots of frames alone turned -/
theorem Rel.slotsOnly (r : Rel prog w c env σ s) (W : WF TS n c A env) {S : List Addr} {h' : Heap} (hS : ∀ a ∈ S, a = env.locals ∨ ∃ o es ep, (a, o) ∈ c.G ∧ o.data = .dict es ep) (hB : ∀ a ∈ S, c.base.get? a = none) (hs : Heap.SlotsOnly S s.heap h') :
    Rel prog w c env σ { s with heap := h' } ∧ Imm s.heap h' := by
  have notS : ∀ b o, s.heap.get? b = some o → b ∈ S → ∃ es ep, o.data = .dict es ep := fun b o e hb => by
    rcases hS b hb with rfl | ⟨o', es, ep, h1, h2⟩
    · obtain ⟨m, ⟨oL, es, ep, e1, e2, _⟩, _⟩ := r.ns
      rw [e] at e1; cases e1; exact ⟨es, ep, e2⟩
    · obtain ⟨og, g, g1, g2, _⟩ := r.guard _ h1
      rw [e] at g; cases g; exact ⟨es, ep, g2.trans h2⟩
  have im : Imm s.heap h' := fun b o e i => by
    by_cases hb : b ∈ S
    · obtain ⟨es, ep, q⟩ := notS b o e hb
      rw [immObj, q] at i; cases i
    · exact (hs.2.1 b hb).trans e
  obtain ⟨m, ⟨oL, es, ep, e1, e2, e3⟩, n2⟩ := r.ns
  obtain ⟨slL, hL⟩ := hs.2.2 _ _ e1
  refine ⟨⟨fun b o e => (hs.2.1 b fun hb => by rw [hB b hb] at e; cases e).trans (r.keep b o e), fun p hp => ?_, ⟨m, ⟨_, es, ep, hL, e2, e3⟩, fun x hx => (n2 x hx).imm im⟩, fun x hx => ?_, fun y hy => ?_, fun a o e => ?_, r.dom, r.gens, r.os, r.drawn⟩, im⟩
  · obtain ⟨og, g, g1, g2, g3⟩ := r.guard p hp
    obtain ⟨sl', g'⟩ := hs.2.2 _ _ g
    by_cases hx : exactO p.2 = true
    · have hnS : p.1 ∉ S := fun hb => by
        obtain ⟨es, ep, q⟩ := notS p.1 og g hb
        rw [g2] at q; unfold exactO at hx; rw [q] at hx; cases hx
      exact ⟨og, (hs.2.1 _ hnS).trans g, g1, g2, g3⟩
    · exact ⟨_, g', g1, g2, fun q => absurd q hx⟩
  · obtain ⟨a, v, f1, ⟨oc, f2, f3⟩, f4⟩ := r.cell x hx
    obtain ⟨sl', g'⟩ := hs.2.2 _ _ f2
    exact ⟨a, v, f1, ⟨_, g', f3⟩, f4.imm im⟩
  · obtain ⟨v, oc, f2, f3⟩ := r.cin y hy
    obtain ⟨sl', g'⟩ := hs.2.2 _ _ f2
    exact ⟨v, _, g', f3⟩
  · refine (r.obj a o e).move im fun ob eb => (hs.2.1 a fun hb => ?_).trans eb
    rcases hS a hb with rfl | ⟨o', _, _, h1, _⟩
    · exact (r.dom _ o e).2.1 rfl
    · exact (r.dom a o e).2.2.1 _ h1 rfl


theorem Off.ne {a : Addr} (r : Rel prog w c env σ s) (o : Off c σ a) {ob : Obj} {vs : Array Value} (e : s.heap.get? a = some ob) (d : ob.data = .fields vs) : a ≠ env.locals ∧ ∀ y ∈ env.cells, y.2 ≠ a := by
  constructor
  · rintro rfl
    obtain ⟨m, ⟨oL, es, ep, e1, e2, _⟩, _⟩ := r.ns
    rw [e] at e1; cases e1; rw [d] at e2; cases e2
  · rintro y hy rfl
    obtain ⟨v, oc, e1, e2⟩ := r.cin y hy
    rw [e] at e1; cases e1; rw [d] at e2; cases e2

/-- an object off the lite state turned -/
theorem Rel.off (r : Rel prog w c env σ s) {a : Addr} (o : Off c σ a) {ob : Obj} {vs : Array Value} (e : s.heap.get? a = some ob) (d : ob.data = .fields vs) (hc : (ob.cls == .type "method-wrapper" || ob.cls == .type "range") = false) {h' : Heap} (k : Heap.ExtBut a s.heap h') : Rel prog w c env σ { s with heap := h' } ∧ Imm s.heap h' := by
  have ni : ∀ o, s.heap.get? a = some o → immObj o = false := fun o q => by
    rw [e] at q; cases q
    rw [immObj, d]; exact hc
  obtain ⟨n1, n2⟩ := o.ne r e d
  exact ⟨r.extBut k ni o.1 n1 o.2.2 n2 o.2.1, Imm.of_extBut k ni⟩

theorem ExcOb.cls_ne {σ : LS} {h : Heap} {x : LX} {ea : Addr} {oe : Obj} {vs : Array Value} (o : ExcOb c σ h x ea oe vs) : (oe.cls == .type "method-wrapper" || oe.cls == .type "range") = false := by
  rw [o.cls]; rcases o.name with q | q <;> rw [q] <;> rfl

/-- noteFrame upon an exception on its way -/
theorem at_note {x : LX} {e : Value} {Q : Unit → Shared → Prop} {E : Value → Shared → Prop} (W : WF TS n c A env) (hf : env.frame = some env.locals) (r : Rel prog w c env σ s) (y : ExcAt c env σ s.heap x e)
    (q : ∀ h', Rel prog w c env σ { s with heap := h' } → ExcTb c σ h' x e (rawInt env.locals) → Imm s.heap h' → Q () { s with heap := h' }) : wpAny (model prog w) A (noteFrame e env) Q E s := by
  obtain ⟨ea, oe, vs, rfl, ob, h1 | ⟨T, oT, ts, h1, tb⟩⟩ := y
  · obtain ⟨outer, fr1, fr2, fr3⟩ := r.funFrames W hf
    unfold noteFrame
    simp only [hf]
    refine wpAny_bind (wpAny_field ob.at_ ob.data h1 ?_)
    rw [if_neg (by decide)]
    refine wpAny_bind (wpAny_frameOf_fun fr1 fr2 hf fun h₁ hs₁ => ?_)
    obtain ⟨r₁, im₁⟩ := r.slotsOnly W fr3 (fun _ ha => (fr2.mem ha).1) hs₁
    refine wpAny_bind (wpAny_entryPlaceOf fun pl hpl => ?_)
    unfold EntryCells.newEntry newFields
    refine wpAny_bind (wpAny_newObj_type ?_ (hpl.sizeOk5 _ _ _ _ _))
    have hea : h₁.get? ea = some oe := (hs₁.2.1 ea fun hm => by
      obtain ⟨_, o, ho, hnf⟩ := fr2.mem hm
      rw [ob.at_] at ho; cases ho; exact hnf vs ob.data).trans ob.at_
    have r₂ := r₁.keeps (tk := s.toks) (h' := h₁.push { cls := .type "traceback", dict := none, data := .fields ([Value.none, .ref env.locals, .none, rawInt env.locals, .none] ++ (if pl.isEmpty then List.replicate 6 Value.none else pl)).toArray }) fun b o e => Heap.get?_push_of_some _ e
    have im₂ : Imm h₁ (h₁.push { cls := .type "traceback", dict := none, data := .fields ([Value.none, .ref env.locals, .none, rawInt env.locals, .none] ++ (if pl.isEmpty then List.replicate 6 Value.none else pl)).toArray }) := Imm.of_keeps fun b o e => Heap.get?_push_of_some _ e
    have he₂ := Heap.get?_push_of_some (h := h₁) { cls := .type "traceback", dict := none, data := .fields ([Value.none, .ref env.locals, .none, rawInt env.locals, .none] ++ (if pl.isEmpty then List.replicate 6 Value.none else pl)).toArray } hea
    refine wpAny_setField he₂ ob.data (Nat.lt_of_succ_lt ob.size) ?_
    have hT₂ := Heap.get?_push_size h₁ (o := { cls := .type "traceback", dict := none, data := .fields ([Value.none, .ref env.locals, .none, rawInt env.locals, .none] ++ (if pl.isEmpty then List.replicate 6 Value.none else pl)).toArray }) rfl
    have hTe : h₁.objs.size ≠ ea := Nat.ne_of_gt (Heap.lt_size hea)
    have hd₃ := Obj.data_mapFields ob.data (·.setIfInBounds 1 (Value.ref h₁.objs.size))
    have hu : Heap.ExtBut ea (h₁.push { cls := .type "traceback", dict := none, data := .fields ([Value.none, .ref env.locals, .none, rawInt env.locals, .none] ++ (if pl.isEmpty then List.replicate 6 Value.none else pl)).toArray }) _ :=
      (Heap.SameBut.update _ ea (Obj.mapFields (·.setIfInBounds 1 (Value.ref h₁.objs.size)))).extBut
    obtain ⟨r₃, im₃⟩ := r₂.off ob.off he₂ ob.data ob.cls_ne hu
    have he₃ := Heap.get?_update_self (Obj.mapFields (·.setIfInBounds 1 (Value.ref h₁.objs.size))) he₂ (Obj.isFreed_of_fields hd₃)
    refine q _ r₃ ⟨ea, _, _, h₁.objs.size, _, _, rfl, ⟨he₃, ?_, ob.name, hd₃, ob.off, by simpa using ob.size, fun hc => ?_⟩, ?_, ⟨(Heap.get?_update_other _ _ (Ne.symm hTe)).trans hT₂, rfl, rfl, ?_, ?_⟩⟩ ((im₁.trans im₂).trans im₃)
    · obtain ⟨cl, d, dt, sl⟩ := oe; have := ob.cls; cases dt <;> exact this
    · have := ob.ctx hc
      rw [Array.getElem?_setIfInBounds, if_neg (by decide)]; exact this
    · rw [Array.getElem?_setIfInBounds, if_pos rfl, if_pos (Nat.lt_of_succ_lt ob.size)]
    · simp
    · exact ⟨r₁.fresh_base, r₁.fresh_obj, r₁.fresh_G⟩
  · unfold noteFrame
    simp only [hf]
    refine wpAny_bind (wpAny_field ob.at_ ob.data h1 ?_)
    rw [if_pos (show (Value.ref T != Value.none) = true from by simp)]
    refine wpAny_bind (wpAny_field tb.at_ tb.data tb.fl ?_)
    rw [if_pos (show (rawInt env.locals == rawInt env.locals) = true from by first | (simp; done) | exact beq_self_eq_true _)]
    exact wpAny_pure (q _ r ⟨ea, oe, vs, T, oT, ts, rfl, ob, h1, tb⟩ (Imm.refl _))

/-- setFlight upon a noted exception -/
theorem at_flight {x : LX} {e fl : Value} {f : Option Addr} {Q : Unit → Shared → Prop} {E : Value → Shared → Prop} (r : Rel prog w c env σ s) (y : ExcTb c σ s.heap x e fl)
    (q : ∀ h', Rel prog w c env σ { s with heap := h' } → ExcTb c σ h' x e (f.elim .none fun a => rawInt a) → Imm s.heap h' → Q () { s with heap := h' }) : wpAny (model prog w) A (setFlight e f) Q E s := by
  obtain ⟨ea, oe, vs, T, oT, ts, rfl, ob, h1, tb⟩ := y
  unfold setFlight
  refine wpAny_bind (wpAny_field ob.at_ ob.data h1 ?_)
  rw [if_pos (show (Value.ref T != Value.none) = true from by simp)]
  have hsz : 3 < ts.size := (Array.getElem?_eq_some_iff.mp tb.fl).1
  refine wpAny_setField tb.at_ tb.data hsz ?_
  have hd₃ := Obj.data_mapFields tb.data (·.setIfInBounds 3 (f.elim Value.none fun a => rawInt a))
  obtain ⟨r₃, im₃⟩ := r.off tb.off tb.at_ tb.data (by rw [tb.cls]; rfl) (Heap.SameBut.update s.heap T (Obj.mapFields (·.setIfInBounds 3 (f.elim Value.none fun a => rawInt a)))).extBut
  have hne : T ≠ ea := fun z => by
    have h9 := tb.cls; have h8 := ob.cls; have e1 := tb.at_; rw [z, ob.at_] at e1; cases e1
    rw [h8] at h9; rcases ob.name with q | q <;> (rw [q] at h9; exact absurd h9 (by decide))
  refine q _ r₃ ⟨ea, oe, vs, T, _, _, rfl, ⟨(Heap.get?_update_other _ _ hne).trans ob.at_, ob.cls, ob.name, ob.data, ob.off, ob.size, ob.ctx⟩, h1, ⟨Heap.get?_update_self _ tb.at_ (Obj.isFreed_of_fields hd₃), ?_, hd₃, ?_, tb.off⟩⟩ im₃
  · obtain ⟨cl, d, dt, sl⟩ := oT; have := tb.cls; cases dt <;> exact this
  · rw [Array.getElem?_setIfInBounds, if_pos rfl, if_pos hsz]

theorem at_back {x : LX} {e fl : Value} {E : Value → Shared → Prop} (hf : env.frame = some env.locals) (r : Rel prog w c env σ s) (y : ExcTb c σ s.heap x e fl)
    (q : ∀ h', Rel prog w c env σ { s with heap := h' } → ExcTb c σ h' x e (rawInt env.locals) → Imm s.heap h' → E e { s with heap := h' }) : cameBackBy (model prog w) A env E e s := by
  unfold cameBackBy
  obtain ⟨ea, oe, vs, T, oT, ts, rfl, ob, h1, tb⟩ := id y
  refine wpAny_bind (wpAny_field ob.at_ ob.data h1 ?_)
  rw [if_neg (show ¬ ((Value.ref T == Value.none) = true) from by simp)]
  rw [hf]
  exact at_flight r y fun h' a b d => q h' a b d

theorem passes {h0 : Heap} {E : LX → LS → Prop} {A' : Around} (W : WF TS n c A' env) (hf : env.frame = some env.locals) : PassesOwnAt (model prog w) A' A env (EPost prog w c env h0 E) := by
  rintro e s' ⟨x, σ', y, r, im, ex⟩
  exact at_note W hf r y fun h' r' y' im' => at_back hf r' y' fun h'' r'' y'' im'' => ⟨x, σ', y''.at, r'', (im.trans im').trans im'', ex⟩
end
end Mine
end
noncomputable section
open PySem PySem.W PyProof.Rows PySem.Calls
set_option Elab.async false
set_option linter.unusedVariables false
namespace Mine

abbrev pseq (m k : PTx LF) : PTx LF := fun Q E σ => m (fun f σ' => match f with | .next => k Q E σ' | .brk => Q .brk σ' | .cont => Q .cont σ' | .ret v => Q (.ret v) σ') E σ
abbrev pif (t : PTx Bool) (a b : PTx LF) : PTx LF := fun Q E σ => t (fun b' σ' => if b' = true then a Q E σ' else b Q E σ') E σ
def pwhile (test : PTx Bool) (body orelse : PTx LF) : PTx LF := fun Q E σ =>
  ∀ P : LS → Prop, (∀ σ, test (fun b σ' => if b = true then body (fun f σ'' => match f with | .next => P σ'' | .cont => P σ'' | .brk => Q .next σ'' | .ret v => Q (.ret v) σ'') E σ' else orelse Q E σ') E σ → P σ) → P σ
def RB (_ : Heap) (b : Bool) (v : Value) : Prop := v = .bool b

section
variable {prog : Program} {w : World} {TS : TopS} {c : Cx} {A : Around} {env : Env} {σ : LS} {s : Shared} {n : Nat}


theorem At.go {α β : Type} {t : Sem α} {R : Heap → β → α → Prop} {m : PTx β} {K : β → LS → Prop} {E : LX → LS → Prop} {P : α → Shared → Prop} {h0 : Heap}
    (h : At prog w c A env t R m σ s) (i0 : Imm h0 s.heap) (q : m K E σ) (g : ∀ lv v σ' s', R s'.heap lv v → Rel prog w c env σ' s' → Imm h0 s'.heap → Imm s.heap s'.heap → K lv σ' → P v s') :
    wpAny (model prog w) A t P (EPost prog w c env h0 E) s := by
  refine wpAny_mono (h K E q) (fun v s' p => ?_) fun _ _ x => x.imm i0
  obtain ⟨lv, σ', a, b, d, e⟩ := p
  exact g lv v σ' s' a b (i0.trans d) d e
theorem At.fin {α β : Type} {t : Sem α} {R : Heap → β → α → Prop} {m : PTx β} {Q : β → LS → Prop} {E : LX → LS → Prop} {h0 : Heap}
    (h : At prog w c A env t R m σ s) (i0 : Imm h0 s.heap) (q : m Q E σ) : wpAny (model prog w) A t (Post prog w c env R h0 Q) (EPost prog w c env h0 E) s :=
  wpAny_mono (h Q E q) (fun _ _ p => p.imm i0) fun _ _ x => x.imm i0

-- constants
theorem sim_int {i : Int} {k : Nat} {pos : Pos} : Sim prog w TS n A env (eval (.Constant (.int i) k pos) env) VRel (pret (.int i)) :=
  fun _ _ _ _ r _ _ q => wpAny_Constant_int ⟨_, _, .int _ _, r.toks _, Imm.refl _, q⟩
theorem sim_none {k : Nat} {pos : Pos} : Sim prog w TS n A env (eval (.Constant .none k pos) env) VRel (pret .none) :=
  fun _ _ _ _ r _ _ q => wpAny_Constant_none ⟨_, _, .none, r, Imm.refl _, q⟩
theorem sim_bool {b : Bool} {k : Nat} {pos : Pos} : Sim prog w TS n A env (eval (.Constant (.bool b) k pos) env) VRel (pret (.bool b)) :=
  fun _ _ _ _ r _ _ q => wpAny_pure ⟨_, _, .bool _, r, Imm.refl _, q⟩

-- globals
theorem at_glob {x : String} {v : Value} {pos : Pos} (hv : TS.gl x = some v) (hk : env.kindOf (Str.ofString x) = some .globalImplicit) (hd : (Str.ofString x == ("__debug__" : Str)) = false) (W : WF TS n c A env) (r : Rel prog w c env σ s)
    {Q : Value → Shared → Prop} {E : Value → Shared → Prop} (q : Q v s) : wpAny (model prog w) A (eval (.Name (Str.ofString x) pos) env) Q E s := by
  obtain ⟨mg, mb, hg, hb, hh⟩ := W.top.globs
  have hg' : s.heap.Ns env.globals mg := by rw [W.sep.glob]; exact hg.keeps r.keep
  have hb' : s.heap.Ns env.builtins mb := by rw [W.sep.bui]; exact hb.keeps r.keep
  rcases hh x v hv with q1 | ⟨q1, q2⟩
  · exact Name_function_global W.sep.kind hk (loadGlobal_global hg' q1 q) hd
  · exact Name_function_global W.sep.kind hk (loadGlobal_builtin hg' q1 hb' q2 q) hd
theorem sim_globInt {x : String} {i : Int} {t : Tok} {pos : Pos} (hv : TS.gl x = some (.int i t)) (hk : env.kindOf (Str.ofString x) = some .globalImplicit) (hd : (Str.ofString x == ("__debug__" : Str)) = false) :
    Sim prog w TS n A env (eval (.Name (Str.ofString x) pos) env) VRel (pret (.int i)) :=
  fun c σ s W r Q E q => at_glob hv hk hd W r ⟨_, _, .int _ _, r, Imm.refl _, q⟩

-- operators
theorem sim_BinOp {l r : Expr} {op : Operator} {pos : Pos} {ml mr : PTx LV} {p : LV → LV → PTx LV} (hl : Sim prog w TS n A env (eval l env) VRel ml) (hr : Sim prog w TS n A env (eval r env) VRel mr) (ho : Sim2 prog w TS n A env (binaryOp op) VRel p) :
    Sim prog w TS n A env (eval (.BinOp l op r pos) env) VRel (pbind ml fun a => pbind mr fun b => p a b) := fun c σ s W h Q E q =>
  wpAny_BinOp ((hl c σ s W h).go (Imm.refl _) q fun a x σ₁ s₁ ra h₁ i₁ j₁ q₁ => (hr c σ₁ s₁ W h₁).go i₁ q₁ fun b y σ₂ s₂ rb h₂ i₂ j₂ q₂ => (ho c σ₂ s₂ a x b y W h₂ (ra.imm j₂) rb).fin i₂ q₂)
theorem sim_Compare {l r : Expr} {op : CmpOp} {pos : Pos} {ml mr : PTx LV} {p : LV → LV → PTx Bool} (hl : Sim prog w TS n A env (eval l env) VRel ml) (hr : Sim prog w TS n A env (eval r env) VRel mr) (ho : Sim2 prog w TS n A env (compareOp op) RB p)
    (hm : behindInMarks op r = false) : Sim prog w TS n A env (eval (.Compare l [op] [r] pos) env) VRel (pbind ml fun a => pbind mr fun b => pbind (p a b) fun z => pret (.bool z)) := fun c σ s W h Q E q =>
  wpAny_Compare1 ((hl c σ s W h).go (Imm.refl _) q fun a x σ₁ s₁ ra h₁ i₁ j₁ q₁ => (hr c σ₁ s₁ W h₁).go i₁ q₁ fun b y σ₂ s₂ rb h₂ i₂ j₂ q₂ => (ho c σ₂ s₂ a x b y W h₂ (ra.imm j₂) rb).go i₂ q₂ fun z v σ₃ s₃ rz h₃ i₃ j₃ q₃ => ⟨_, σ₃, by rw [show v = _ from rz]; exact .bool z, h₃, i₃, q₃⟩) hm
theorem sim_test_Compare {l r : Expr} {op : CmpOp} {pos : Pos} {ml mr : PTx LV} {p : LV → LV → PTx Bool} {whole : Sem Value} (hl : Sim prog w TS n A env (eval l env) VRel ml) (hr : Sim prog w TS n A env (eval r env) VRel mr) (ho : Sim2 prog w TS n A env (compareOp op) RB p)
    (hm : behindInMarks op r = false) : Sim prog w TS n A env (isTrue (.Compare l [op] [r] pos) env whole) REq (pbind ml fun a => pbind mr fun b => p a b) := fun c σ s W h Q E q =>
  wpAny_isTrue_Compare1 ((hl c σ s W h).go (Imm.refl _) q fun a x σ₁ s₁ ra h₁ i₁ j₁ q₁ => (hr c σ₁ s₁ W h₁).go i₁ q₁ fun b y σ₂ s₂ rb h₂ i₂ j₂ q₂ => (ho c σ₂ s₂ a x b y W h₂ (ra.imm j₂) rb).go i₂ q₂ fun z v σ₃ s₃ rz h₃ i₃ j₃ q₃ => by
    rw [show v = _ from rz]; exact wpAny_truthy_bool ⟨z, σ₃, rfl, h₃, i₃, q₃⟩) hm
theorem sim_UnaryOp {x : Expr} {op : UnaryOp} {pos : Pos} {m : PTx LV} {p : LV → PTx LV} (hx : Sim prog w TS n A env (eval x env) VRel m) (ho : Sim1 prog w TS n A env (unaryOp op) VRel p) :
    Sim prog w TS n A env (eval (.UnaryOp op x pos) env) VRel (pbind m p) := fun c σ s W h Q E q =>
  wpAny_UnaryOp ((hx c σ s W h).go (Imm.refl _) q fun a x σ₁ s₁ ra h₁ i₁ j₁ q₁ => (ho c σ₁ s₁ a x W h₁ ra).fin i₁ q₁)
theorem sim_test_Not {x : Expr} {pos : Pos} {whole : Sem Value} {m : PTx Bool} (hx : Sim prog w TS n A env (isTrue x env (eval x env)) REq m) :
    Sim prog w TS n A env (isTrue (.UnaryOp .Not x pos) env whole) REq (pbind m fun b => pret (!b)) := fun c σ s W h Q E q =>
  wpAny_isTrue_Not ((hx c σ s W h).go (Imm.refl _) q fun a x σ₁ s₁ ra h₁ i₁ j₁ q₁ => ⟨!a, σ₁, by rw [show a = x from ra]; rfl, h₁, i₁, q₁⟩)
theorem sim_test_And {x y : Expr} {pos : Pos} {whole : Sem Value} {m k : PTx Bool} (hx : Sim prog w TS n A env (isTrue x env (eval x env)) REq m) (hy : Sim prog w TS n A env (isTrue y env (eval y env)) REq k) :
    Sim prog w TS n A env (isTrue (.BoolOp .And [x, y] pos) env whole) REq (pbind m fun b => fun Q E σ => if b = true then k Q E σ else Q false σ) := fun c σ s W h Q E q => by
  refine wpAny_isTrue_BoolOp (wpAny_allTrue_And_cons ((hx c σ s W h).go (Imm.refl _) q fun a x σ₁ s₁ ra h₁ i₁ j₁ q₁ => ?_))
  cases show a = x from ra
  cases a with
  | false => simp at q₁ ⊢; exact ⟨false, σ₁, rfl, h₁, i₁, q₁⟩
  | true =>
    simp at q₁ ⊢
    refine wpAny_allTrue_And_cons ((hy c σ₁ s₁ W h₁).go i₁ q₁ fun b x σ₂ s₂ rb h₂ i₂ j₂ q₂ => ?_)
    cases show b = x from rb
    cases b with
    | false => simp; exact ⟨false, σ₂, rfl, h₂, i₂, q₂⟩
    | true => simp; exact wpAny_allTrue_And_nil ⟨true, σ₂, rfl, h₂, i₂, q₂⟩
theorem sim_test_val {e : Expr} {m : PTx LV} {p : LV → PTx Bool} (hx : Sim prog w TS n A env (eval e env) VRel m) (ht : Sim1 prog w TS n A env truthy REq p)
    (he : isTrue e env (eval e env) = (do let v ← eval e env; standAt e.pos; holding [v] (truthy v))) : Sim prog w TS n A env (isTrue e env (eval e env)) REq (pbind m p) := fun c σ s W h Q E q =>
  wpAny_isTrue_value ((hx c σ s W h).go (Imm.refl _) q fun a x σ₁ s₁ ra h₁ i₁ j₁ q₁ => (ht c σ₁ s₁ a x W h₁ ra).fin i₁ q₁) he

-- statements
theorem sim_nil : Sim prog w TS n A env (execs [] env) FlRel (pret .next) := fun c σ s W h Q E q => wpAny_execs_nil ⟨_, σ, .next, h, Imm.refl _, q⟩
theorem sim_cons {st : Stmt} {rest : List Stmt} {m k : PTx LF} (h1 : Sim prog w TS n A env (exec st env) FlRel m) (h2 : Sim prog w TS n A env (execs rest env) FlRel k) : Sim prog w TS n A env (execs (st :: rest) env) FlRel (pseq m k) := fun c σ s W h Q E q => by
  refine wpAny_execs_cons ((h1 c σ s W h).go (Imm.refl _) q fun f v σ₁ s₁ rf h₁ i₁ j₁ q₁ => ?_)
  cases rf with
  | next => exact (h2 c σ₁ s₁ W h₁).fin i₁ q₁
  | brk => exact ⟨_, σ₁, .brk, h₁, i₁, q₁⟩
  | cont => exact ⟨_, σ₁, .cont, h₁, i₁, q₁⟩
  | ret r => exact ⟨_, σ₁, .ret r, h₁, i₁, q₁⟩
theorem sim_one {st : Stmt} {m : PTx LF} (h1 : Sim prog w TS n A env (exec st env) FlRel m) : Sim prog w TS n A env (execs [st] env) FlRel m := fun c σ s W h Q E q => by
  refine wpAny_execs_cons ((h1 c σ s W h).go (Imm.refl _) q fun f v σ₁ s₁ rf h₁ i₁ j₁ q₁ => ?_)
  cases rf with
  | next => exact wpAny_execs_nil ⟨_, σ₁, .next, h₁, i₁, q₁⟩
  | brk => exact ⟨_, σ₁, .brk, h₁, i₁, q₁⟩
  | cont => exact ⟨_, σ₁, .cont, h₁, i₁, q₁⟩
  | ret r => exact ⟨_, σ₁, .ret r, h₁, i₁, q₁⟩
theorem sim_Break {pos : Pos} : Sim prog w TS n A env (exec (.Break pos) env) FlRel (pret .brk) := fun c σ s W h Q E q => wpAny_Break ⟨_, σ, .brk, h, Imm.refl _, q⟩
theorem sim_Continue {pos : Pos} : Sim prog w TS n A env (exec (.Continue pos) env) FlRel (pret .cont) := fun c σ s W h Q E q => wpAny_Continue ⟨_, σ, .cont, h, Imm.refl _, q⟩
theorem sim_Return {e : Expr} {pos : Pos} {m : PTx LV} (h1 : Sim prog w TS n A env (eval e env) VRel m) : Sim prog w TS n A env (exec (.Return (some e) pos) env) FlRel (pbind m fun v => pret (.ret v)) := fun c σ s W h Q E q =>
  wpAny_Return_some ((h1 c σ s W h).go (Imm.refl _) q fun a v σ₁ s₁ ra h₁ i₁ j₁ q₁ => ⟨_, σ₁, .ret ra, h₁, i₁, q₁⟩)
theorem sim_Expr {e : Expr} {pos : Pos} {m : PTx LV} (h1 : Sim prog w TS n A env (eval e env) VRel m) (hi : interactive env = false) (hs : swapsWith e none pos.line env = pure false) :
    Sim prog w TS n A env (exec (.Expr e pos) env) FlRel (pbind m fun _ => pret .next) := fun c σ s W h Q E q =>
  wpAny_Expr_any ((h1 c σ s W h).go (Imm.refl _) q fun a v σ₁ s₁ ra h₁ i₁ j₁ q₁ => ⟨_, σ₁, .next, h₁, i₁, q₁⟩) hi hs
theorem sim_If {t : Expr} {body orelse : List Stmt} {pos : Pos} {mt : PTx Bool} {ma mb : PTx LF} (ht : Sim prog w TS n A env (isTrue t env (eval t env)) REq mt) (ha : Sim prog w TS n A env (execs body env) FlRel ma) (hb : Sim prog w TS n A env (execs orelse env) FlRel mb) :
    Sim prog w TS n A env (exec (.If t body orelse pos) env) FlRel (pif mt ma mb) := fun c σ s W h Q E q =>
  wpAny_If ((ht c σ s W h).go (Imm.refl _) q fun z x σ₁ s₁ rz h₁ i₁ j₁ q₁ => by
    cases show z = x from rz
    cases z with
    | true => simp at q₁ ⊢; exact (ha c σ₁ s₁ W h₁).fin i₁ q₁
    | false => simp at q₁ ⊢; exact (hb c σ₁ s₁ W h₁).fin i₁ q₁)
theorem sim_Assign_Name {x : String} {e : Expr} {pos pos' : Pos} {m : PTx LV} (hk : StoreOk env x) (h1 : Sim prog w TS n A env (eval e env) VRel m) (hs : swapsWith e (some (.Name (Str.ofString x) pos')) pos.line env = pure false) :
    Sim prog w TS n A env (exec (.Assign [.Name (Str.ofString x) pos'] e pos) env) FlRel (pbind m fun v => pbind (pset x v) fun _ => pret .next) := fun c σ s W h Q E q =>
  wpAny_Assign_Name ((h1 c σ s W h).go (Imm.refl _) q fun a v σ₁ s₁ ra h₁ i₁ j₁ q₁ => (at_store hk W h₁ ra).go i₁ (K := fun _ σ' => Q .next σ') (E := E) q₁ fun _ _ σ₂ s₂ _ h₂ i₂ j₂ q₂ => ⟨_, σ₂, .next, h₂, i₂, q₂⟩) hs
theorem sim_AugAssign_Name {x : String} {e : Expr} {op : Operator} {pos pos' : Pos} {m : PTx LV} {p : LV → LV → PTx LV} (hk : StoreOk env x) (hn : nameOk env x = true) (h1 : Sim prog w TS n A env (eval e env) VRel m) (ho : Sim2 prog w TS n A env (inplaceOp op) VRel p) :
    Sim prog w TS n A env (exec (.AugAssign (.Name (Str.ofString x) pos') op e pos) env) FlRel (pbind (pget x) fun a => pbind m fun b => pbind (p a b) fun v => pbind (pset x v) fun _ => pret .next) := fun c σ s W h Q E q =>
  wpAny_AugAssign_Name ((at_load hn W.sep.kind h).go (Imm.refl _) (E := E) (K := fun a σ' => (pbind m fun b => pbind (p a b) fun v => pbind (pset x v) fun _ => pret LF.next) Q E σ') q fun a v σ₁ s₁ ra h₁ i₁ j₁ q₁ => (h1 c σ₁ s₁ W h₁).go i₁ q₁ fun b y σ₂ s₂ rb h₂ i₂ j₂ q₂ =>
    (ho c σ₂ s₂ a v b y W h₂ (ra.imm j₂) rb).go i₂ q₂ fun d z σ₃ s₃ rd h₃ i₃ j₃ q₃ => (at_store hk W h₃ rd).go i₃ (K := fun _ σ' => Q .next σ') (E := E) q₃ fun _ _ σ₄ s₄ _ h₄ i₄ j₄ q₄ => ⟨_, σ₄, .next, h₄, i₄, q₄⟩)

-- while
theorem sim_While {t : Expr} {body orelse : List Stmt} {pos : Pos} {mt : PTx Bool} {mb mo : PTx LF} (hf : env.frame = some env.locals) (ht : Sim prog w TS n A env (isTrue t env (eval t env)) REq mt) (hb : Sim prog w TS n A env (execs body env) FlRel mb) (ho : Sim prog w TS n A env (execs orelse env) FlRel mo) :
    Sim prog w TS n A env (exec (.While t body orelse pos) env) FlRel (pwhile mt mb mo) := fun c σ s W h Q E q => by
  have pass := passes (prog := prog) (w := w) (A := A) (h0 := s.heap) (E := E) W hf
  refine wpAny_While ?_
  have key := q (fun σ => ∀ s₁ : Shared, Rel prog w c env σ s₁ → Imm s.heap s₁.heap →
    codeAny (model prog w) A (.whileLoop t body orelse env) (fun r s' => match r with | .ok f => Post prog w c env FlRel s.heap Q f s' | .error e => cameBackBy (model prog w) A env (EPost prog w c env s.heap E) e s') s₁) ?_
  · exact key s h (Imm.refl _)
  · intro σ₁ step s₁ h₁ i₁
    refine codeAny_of_tree ?_
    show wpAny _ A ((whileTurn t body orelse env).onRaise (fun x => do noteFrame x env; theTreesLotGoes x)) _ _ s₁
    refine wpAny_noted ?_
    simp only [whileTurn]
    refine wpAny_bind (wpAny_mono ((ht c σ₁ s₁ W h₁).go i₁ step fun z x σ₂ s₂ rz h₂ i₂ j₂ q₂ => ?_) (fun _ _ x => x) pass)
    cases show z = x from rz
    cases z with
    | true =>
      simp only [if_true] at q₂ ⊢
      refine wpAny_bind (wpAny_mono ((hb c σ₂ s₂ W h₂).go i₂ q₂ fun f v σ₃ s₃ rf h₃ i₃ j₃ q₃ => ?_) (fun _ _ x => x) pass)
      cases rf with
      | next => exact wpAny_pure ⟨rfl, q₃ s₃ h₃ i₃⟩
      | brk => exact wpAny_pure ⟨_, σ₃, .next, h₃, i₃, q₃⟩
      | cont => exact wpAny_pure ⟨rfl, q₃ s₃ h₃ i₃⟩
      | ret r => exact wpAny_pure ⟨_, σ₃, .ret r, h₃, i₃, q₃⟩
    | false =>
      simp only [Bool.false_eq_true, if_false] at q₂ ⊢
      exact wpAny_bind (wpAny_mono ((ho c σ₂ s₂ W h₂).fin i₂ q₂) (fun _ _ p => wpAny_pure p) pass)
end
end Mine
end
noncomputable section
open PySem PySem.W PyProof.Rows PySem.Calls
set_option Elab.async false
set_option linter.unusedVariables false
namespace Mine

def padd : LV → LV → PTx LV
  | .int i, .int j => pret (.int (i + j))
  | _, _ => pfail
def psub : LV → LV → PTx LV
  | .int i, .int j => pret (.int (i - j))
  | _, _ => pfail
def pmul : LV → LV → PTx LV
  | .int i, .int j => fun Q _ σ => j.natAbs < 2 ^ 60 ∧ Q (.int (i * j)) σ
  | _, _ => pfail
def pdiv : LV → LV → PTx LV
  | .int i, .int j => fun Q _ σ => (j ≠ 0 ∧ j.natAbs < 2 ^ 20) ∧ Q (.int (i.fdiv j)) σ
  | _, _ => pfail
def pmod : LV → LV → PTx LV
  | .int i, .int j => fun Q _ σ => j ≠ 0 ∧ Q (.int (i.fmod j)) σ
  | _, _ => pfail
def ppow : LV → LV → PTx LV
  | .int i, .int j => fun Q _ σ => (0 ≤ j ∧ j ≤ 1000 ∧ i.natAbs ≤ 16) ∧ Q (.int (i ^ j.toNat)) σ
  | _, _ => pfail
def pshr : LV → LV → PTx LV
  | .int i, .int j => fun Q _ σ => 0 ≤ j ∧ Q (.int (i.fdiv (2 ^ j.toNat))) σ
  | _, _ => pfail
def pneg : LV → PTx LV
  | .int i => pret (.int (-i))
  | _ => pfail
def pcat : LV → LV → PTx LV
  | .ref a, .ref b => fun Q _ σ => ∃ xs ys, σ.heap a = some (.list xs) ∧ σ.heap b = some (.list ys) ∧ xs.length + ys.length ≤ cap ∧ ∀ d, σ.heap d = none → Q (.ref d) (σ.put d (.list (xs ++ ys)))
  | _, _ => pfail
def pltT (as bs : List LV) : PTx Bool := fun Q _ σ => ∃ i j k l : Int, as = [.int i, .int j] ∧ bs = [.int k, .int l] ∧ Q (decide (i < k ∨ (i = k ∧ j < l))) σ
def plt : LV → LV → PTx Bool
  | .int i, .int j => pret (decide (i < j))
  | .tup as, .tup bs => pltT as bs
  | _, _ => pfail
def pgt : LV → LV → PTx Bool
  | .int i, .int j => pret (decide (j < i))
  | _, _ => pfail
def pge : LV → LV → PTx Bool
  | .int i, .int j => pret (decide (j ≤ i))
  | _, _ => pfail
def peq : LV → LV → PTx Bool
  | .int i, .int j => pret (i == j)
  | _, _ => pfail
def pne : LV → LV → PTx Bool
  | .int i, .int j => pret (i != j)
  | _, _ => pfail
/-- x is None -/
def pisNone : LV → LV → PTx Bool
  | .none, .none => pret true
  | .ref _, .none => pret false
  | _, _ => pfail
def pisNotNone : LV → LV → PTx Bool
  | .none, .none => pret false
  | .ref _, .none => pret true
  | _, _ => pfail
def ptruth : LV → PTx Bool
  | .none => pret false
  | .bool b => pret b
  | .int i => pret (i != 0)
  | .ref a => fun Q _ σ => ∃ xs, σ.heap a = some (.list xs) ∧ Q (!xs.isEmpty) σ
  | _ => pfail

theorem sub_tuple : isSubtype (.type "tuple") (.type "tuple") = pure true := by rw [isSubtype_type]; kernel_rfl

section
variable {prog : Program} {w : World} {TS : TopS} {c : Cx} {A : Around} {env : Env} {σ : LS} {s : Shared} {n : Nat}

theorem VRel.int_inv {h : Heap} {i : Int} {v : Value} (r : VRel h (.int i) v) : ∃ t, v = .int i t := by cases r; exact ⟨_, rfl⟩
theorem VRel.ref_inv {h : Heap} {a : Nat} {v : Value} (r : VRel h (.ref a) v) : v = .ref a := by cases r; rfl
theorem VRel.none_inv {h : Heap} {v : Value} (r : VRel h .none v) : v = .none := by cases r; rfl
theorem VRel.bool_inv {h : Heap} {b : Bool} {v : Value} (r : VRel h (.bool b) v) : v = .bool b := by cases r; rfl
theorem VRel.tup_inv {h : Heap} {vs : List LV} {v : Value} (r : VRel h (.tup vs) v) : ∃ t items n, v = .ref t ∧ h.get? t = some (tupObj items n) ∧ VRels h vs items := by
  cases r with
  | tup e r => exact ⟨_, _, _, rfl, e, r⟩


theorem sim_add : Sim2 prog w TS n A env (binaryOp .Add) VRel padd := fun c σ s a x b y W h ra rb Q E q => by
  unfold padd at q; split at q
  · obtain ⟨t, rfl⟩ := ra.int_inv; obtain ⟨u, rfl⟩ := rb.int_inv
    exact add_int ⟨_, σ, .int _ _, h.toks _, Imm.refl _, q⟩
  · exact q.elim
theorem sim_iadd : Sim2 prog w TS n A env (inplaceOp .Add) VRel padd := fun c σ s a x b y W h ra rb Q E q => by
  unfold padd at q; split at q
  · obtain ⟨t, rfl⟩ := ra.int_inv; obtain ⟨u, rfl⟩ := rb.int_inv
    exact iadd_int ⟨_, σ, .int _ _, h.toks _, Imm.refl _, q⟩
  · exact q.elim
theorem sim_sub : Sim2 prog w TS n A env (binaryOp .Sub) VRel psub := fun c σ s a x b y W h ra rb Q E q => by
  unfold psub at q; split at q
  · obtain ⟨t, rfl⟩ := ra.int_inv; obtain ⟨u, rfl⟩ := rb.int_inv
    exact sub_int' ⟨_, σ, .int _ _, h.toks _, Imm.refl _, q⟩
  · exact q.elim
theorem sim_isub : Sim2 prog w TS n A env (inplaceOp .Sub) VRel psub := fun c σ s a x b y W h ra rb Q E q => by
  unfold psub at q; split at q
  · obtain ⟨t, rfl⟩ := ra.int_inv; obtain ⟨u, rfl⟩ := rb.int_inv
    exact isub_int ⟨_, σ, .int _ _, h.toks _, Imm.refl _, q⟩
  · exact q.elim
theorem bits_small {j : Int} (h : j.natAbs < 2 ^ 60) : Builtin.Int.intBits j ≤ 64 := by
  unfold Builtin.Int.intBits
  split
  · omega
  · by_cases hz : j.natAbs = 0
    · rw [hz]; simp
    · have := (Nat.log2_lt hz).mpr h
      omega
theorem sim_mul : Sim2 prog w TS n A env (binaryOp .Mult) VRel pmul := fun c σ s a x b y W h ra rb Q E q => by
  unfold pmul at q; split at q
  · obtain ⟨t, rfl⟩ := ra.int_inv; obtain ⟨u, rfl⟩ := rb.int_inv
    exact mul_int ⟨_, σ, .int _ _, h.toks _, Imm.refl _, q.2⟩ (.of_right (bits_small q.1))
  · exact q.elim
theorem sim_div : Sim2 prog w TS n A env (binaryOp .FloorDiv) VRel pdiv := fun c σ s a x b y W h ra rb Q E q => by
  unfold pdiv at q; split at q
  · obtain ⟨t, rfl⟩ := ra.int_inv; obtain ⟨u, rfl⟩ := rb.int_inv
    obtain ⟨⟨q1, q2⟩, q⟩ := q
    refine floordiv_int q1 ⟨_, σ, .int _ _, h.toks _, Imm.refl _, q⟩ (.inl (PyProof.noPylong_small ?_))
    omega
  · exact q.elim
theorem sim_mod : Sim2 prog w TS n A env (binaryOp .Mod) VRel pmod := fun c σ s a x b y W h ra rb Q E q => by
  unfold pmod at q; split at q
  · obtain ⟨t, rfl⟩ := ra.int_inv; obtain ⟨u, rfl⟩ := rb.int_inv
    exact mod_int q.1 ⟨_, σ, .int _ _, h.toks _, Imm.refl _, q.2⟩
  · exact q.elim
theorem sim_pow : Sim2 prog w TS n A env (binaryOp .Pow) VRel ppow := fun c σ s a x b y W h ra rb Q E q => by
  unfold ppow at q; split at q
  · obtain ⟨t, rfl⟩ := ra.int_inv; obtain ⟨u, rfl⟩ := rb.int_inv
    obtain ⟨⟨q1, q2, q3⟩, q⟩ := q
    refine pow_int q1 ?_ ⟨_, σ, .int _ _, h.toks _, Imm.refl _, q⟩
    rename_i i j
    have h1 : Builtin.Int.intBits i ≤ 64 := bits_small (Nat.lt_of_le_of_lt q3 (by decide))
    have h2 : ((Builtin.Int.intBits i : Nat) : Int) ≤ 64 := by exact_mod_cast h1
    calc _ ≤ (64 : Int) * 1000 := Int.mul_le_mul h2 q2 q1 (by decide)
      _ ≤ 2 ^ 27 := by decide
  · exact q.elim
theorem sim_shr : Sim2 prog w TS n A env (binaryOp .RShift) VRel pshr := fun c σ s a x b y W h ra rb Q E q => by
  unfold pshr at q; split at q
  · obtain ⟨t, rfl⟩ := ra.int_inv; obtain ⟨u, rfl⟩ := rb.int_inv
    exact rshift_int q.1 ⟨_, σ, .int _ _, h.toks _, Imm.refl _, q.2⟩
  · exact q.elim
theorem sim_neg : Sim1 prog w TS n A env (unaryOp .USub) VRel pneg := fun c σ s a x W h ra Q E q => by
  unfold pneg at q; split at q
  · obtain ⟨t, rfl⟩ := ra.int_inv
    exact neg_int ⟨_, σ, .int _ _, h.toks _, Imm.refl _, q⟩
  · exact q.elim
theorem sim_gt : Sim2 prog w TS n A env (compareOp .Gt) RB pgt := fun c σ s a x b y W h ra rb Q E q => by
  unfold pgt at q; split at q
  · obtain ⟨t, rfl⟩ := ra.int_inv; obtain ⟨u, rfl⟩ := rb.int_inv
    exact gt_int ⟨_, σ, rfl, h, Imm.refl _, q⟩
  · exact q.elim
theorem sim_ge : Sim2 prog w TS n A env (compareOp .GtE) RB pge := fun c σ s a x b y W h ra rb Q E q => by
  unfold pge at q; split at q
  · obtain ⟨t, rfl⟩ := ra.int_inv; obtain ⟨u, rfl⟩ := rb.int_inv
    exact ge_int ⟨_, σ, rfl, h, Imm.refl _, q⟩
  · exact q.elim
theorem sim_eq : Sim2 prog w TS n A env (compareOp .Eq) RB peq := fun c σ s a x b y W h ra rb Q E q => by
  unfold peq at q; split at q
  · obtain ⟨t, rfl⟩ := ra.int_inv; obtain ⟨u, rfl⟩ := rb.int_inv
    exact eq_int ⟨_, σ, rfl, h, Imm.refl _, q⟩
  · exact q.elim
theorem sim_ne : Sim2 prog w TS n A env (compareOp .NotEq) RB pne := fun c σ s a x b y W h ra rb Q E q => by
  unfold pne at q; split at q
  · obtain ⟨t, rfl⟩ := ra.int_inv; obtain ⟨u, rfl⟩ := rb.int_inv
    exact ne_int ⟨_, σ, rfl, h, Imm.refl _, q⟩
  · exact q.elim

theorem tuple_lt_run {a b : Addr} {i j k l : Int} {t1 t2 t3 t4 : Tok} {n1 n2 : Nat} {P : Fin → Shared → Prop} {E : Value → Shared → Prop}
    (ha : s.heap.get? a = some (tupObj [.int i t1, .int j t2] n1)) (hb : s.heap.get? b = some (tupObj [.int k t3, .int l t4] n2))
    (h : P (.done (.ret (.bool (decide (i < k ∨ (i = k ∧ j < l)))))) s) : wpAny (model prog w) A (Builtin.«tuple.__lt__» ⟨[.ref a, .ref b], []⟩) P E s := by
  obtain ⟨hp, g, d, tk, os⟩ := s
  unfold Builtin.«tuple.__lt__»
  wp_walk
  refine wpAny_of_eq sub_tuple ?_
  simp only [Bool.not_true, Bool.false_eq_true, if_false]
  refine wpAny_bind (wpAny_tupleItemsOf ha rfl ?_)
  refine wpAny_bind (wpAny_tupleItemsOf hb rfl ?_)
  simp only [List.zip_cons_cons, List.zip_nil_right, List.forIn_cons, List.forIn_nil]
  refine wpAny_bind (wpAny_bind (wpAny_bind (wpAny_eqBool_int ?_)))
  by_cases h1 : i = k
  · subst h1
    simp only [beq_self_eq_true, Bool.not_true, Bool.false_eq_true, if_false]
    refine wpAny_pure ?_
    refine wpAny_bind (wpAny_bind (wpAny_eqBool_int ?_))
    by_cases h2 : j = l
    · subst h2
      simp only [beq_self_eq_true, Bool.not_true, Bool.false_eq_true, if_false]
      refine wpAny_pure (wpAny_pure ?_)
      simp at h
      exact wpAny_pure h
    · simp only [show (j == l) = false from by simpa using h2, Bool.not_false, if_true]
      refine wpAny_bind (wpAny_rule (wpAny_bind (wpAny_lt_int (wpAny_bind (wpAny_pure (wpAny_pure (wpAny_pure ?_)))))))
      simp at h
      exact wpAny_pure h
  · simp only [show (i == k) = false from by simpa using h1, Bool.not_false, if_true]
    refine wpAny_bind (wpAny_rule (wpAny_bind (wpAny_lt_int (wpAny_bind (wpAny_pure (wpAny_pure (wpAny_pure ?_)))))))
    simp [h1] at h
    exact wpAny_pure h

theorem pair_inv {h : Heap} {i j : Int} {v : Value} (r : VRel h (.tup [.int i, .int j]) v) : ∃ t t1 t2 n, v = .ref t ∧ h.get? t = some (tupObj [.int i t1, .int j t2] n) := by
  obtain ⟨t, items, n, rfl, e, r⟩ := r.tup_inv
  cases r with
  | cons x r => cases r with
    | cons y r => cases r with
      | nil =>
        obtain ⟨t1, rfl⟩ := x.int_inv; obtain ⟨t2, rfl⟩ := y.int_inv
        exact ⟨t, t1, t2, n, rfl, e⟩

theorem sim_lt : Sim2 prog w TS n A env (compareOp .Lt) RB plt := fun c σ s a x b y W h ra rb Q E q => by
  unfold plt at q; split at q
  · obtain ⟨t, rfl⟩ := ra.int_inv; obtain ⟨u, rfl⟩ := rb.int_inv
    exact lt_int ⟨_, σ, rfl, h, Imm.refl _, q⟩
  · obtain ⟨_, _, _, _, rfl, rfl, q⟩ := q
    obtain ⟨t, t1, t2, n1, rfl, e1⟩ := pair_inv ra
    obtain ⟨u, t3, t4, n2, rfl, e2⟩ := pair_inv rb
    refine cmp_ofLt (wpAny_richCompare_same_room (T := "tuple") ⟨_, e1, rfl⟩ ⟨_, e2, rfl⟩ F.slot_tuple_lt (wpAny_call_entry F.slot_tuple_lt ⟨_, e1, rfl⟩ F.entry_tuple_lt (tuple_lt_run e1 e2 ⟨_, rfl, by simp, ?_⟩) (F.args_tuple_lt_2 _ _)) ?_)
    · exact ⟨_, σ, rfl, h, Imm.refl _, q⟩
    · exact Nat.lt_of_le_of_lt (Nat.le_add_right _ _) W.units
  · exact q.elim
theorem sim_isNone : Sim2 prog w TS n A env (compareOp .Is) RB pisNone := fun c σ s a x b y W h ra rb Q E q => by
  unfold pisNone at q; split at q
  · cases ra.none_inv; cases rb.none_inv
    exact wpAny_is_self rfl ⟨_, σ, rfl, h, Imm.refl _, q⟩
  · cases ra.ref_inv; cases rb.none_inv
    exact wpAny_is_other rfl (by simp) ⟨_, σ, rfl, h, Imm.refl _, q⟩
  · exact q.elim
theorem sim_isNotNone : Sim2 prog w TS n A env (compareOp .IsNot) RB pisNotNone := fun c σ s a x b y W h ra rb Q E q => by
  unfold pisNotNone at q; split at q
  · cases ra.none_inv; cases rb.none_inv
    exact wpAny_isNot_self rfl ⟨_, σ, rfl, h, Imm.refl _, q⟩
  · cases ra.ref_inv; cases rb.none_inv
    exact wpAny_isNot_other rfl (by simp) ⟨_, σ, rfl, h, Imm.refl _, q⟩
  · exact q.elim

theorem Rel.list_at (h : Rel prog w c env σ s) {a : Nat} {xs : List LV} (e : σ.heap a = some (.list xs)) : xs.length ≤ cap ∧ ∃ items n, IsL s.heap a items n ∧ VRels s.heap xs items.toList := h.obj a _ e

theorem sim_cat : Sim2 prog w TS n A env (binaryOp .Add) VRel pcat := fun c σ s a x b y W h ra rb Q E q => by
  unfold pcat at q; split at q
  · obtain ⟨xs, ys, e1, e2, hz, q⟩ := q
    cases ra.ref_inv; cases rb.ref_inv
    obtain ⟨_, it1, n1, l1, r1⟩ := h.list_at e1
    obtain ⟨_, it2, n2, l2, r2⟩ := h.list_at e2
    have s1 := r1.length; have s2 := r2.length
    simp only [Array.length_toList] at s1 s2
    have hc := cap_le
    refine P.add_list l1 l2 ⟨_, _, .ref _, h.alloc (tk := s.toks) (o := .list (xs ++ ys)) (fun b o e => Heap.get?_push_of_some _ e) ⟨?_, _, 0, Heap.get?_push_size _ rfl, ?_⟩, Imm.of_keeps fun b o e => Heap.get?_push_of_some _ e, q _ h.fresh_obj⟩ (by omega)
    · simpa using hz
    · have im : Imm s.heap _ := Imm.of_keeps fun b o e => Heap.get?_push_of_some (h := s.heap) { cls := .type "list", data := .seq (it1 ++ it2) } e
      simpa using (r1.append r2).imm im
  · exact q.elim

theorem sim_truth : Sim1 prog w TS n A env truthy REq ptruth := fun c σ s a x W h ra Q E q => by
  unfold ptruth at q; split at q
  · cases ra.none_inv
    exact wpAny_pure ⟨_, σ, rfl, h, Imm.refl _, q⟩
  · cases ra.bool_inv
    exact wpAny_truthy_bool ⟨_, σ, rfl, h, Imm.refl _, q⟩
  · obtain ⟨t, rfl⟩ := ra.int_inv
    exact truthy_int ⟨_, σ, rfl, h, Imm.refl _, q⟩
  · obtain ⟨xs, e1, q⟩ := q
    cases ra.ref_inv
    obtain ⟨hz, it1, n1, l1, r1⟩ := h.list_at e1
    have s1 := r1.length
    simp only [Array.length_toList] at s1
    refine wpAny_truthy_list l1.isList ?_ ⟨_, σ, ?_, h.toks _, Imm.refl _, q⟩
    · have : cap < 2 ^ 62 := by decide
      omega
    · show (!xs.isEmpty) = _
      congr 1
      rw [Bool.eq_iff_iff]; simp only [List.isEmpty_iff_length_eq_zero, Array.isEmpty_iff_size_eq_zero]; omega
  · exact q.elim
end
end Mine
end
noncomputable section
open PySem PySem.W PyProof.Rows PySem.Calls
set_option Elab.async false
set_option linter.unusedVariables false
namespace Mine

/-- an item of a list that is there -/
def plget : LV → LV → PTx LV
  | .ref a, .int k => fun Q _ σ => ∃ xs v, σ.heap a = some (.list xs) ∧ 0 ≤ k ∧ xs[k.toNat]? = some v ∧ Q v σ
  | _, _ => pfail
/-- the last item of a list -/
def pllast : LV → LV → PTx LV
  | .ref a, .int k => fun Q _ σ => k = -1 ∧ ∃ xs v, σ.heap a = some (.list xs) ∧ xs.getLast? = some v ∧ Q v σ
  | _, _ => pfail
/-- an item of a list, or an IndexError -/
def plitem : LV → LV → PTx LV
  | .ref a, .int k => fun Q E σ => ∃ xs, σ.heap a = some (.list xs) ∧ 0 ≤ k ∧ k < 2 ^ 60 ∧ (match xs[k.toNat]? with | some v => Q v σ | none => E ⟨"IndexError", false⟩ σ)
  | _, _ => pfail
def ptget : LV → LV → PTx LV
  | .tup vs, .int k => fun Q _ σ => ∃ v, 0 ≤ k ∧ vs.length ≤ 1000 ∧ vs[k.toNat]? = some v ∧ Q v σ
  | _, _ => pfail
def pdget : LV → LV → PTx LV
  | .ref a, .int k => fun Q _ σ => ∃ es ep v, σ.heap a = some (.dict es ep) ∧ es.lookup k = some v ∧ Q v σ
  | _, _ => pfail
def plset : LV → LV → LV → PTx Unit
  | .ref a, .int k, v => fun Q _ σ => ∃ xs, σ.heap a = some (.list xs) ∧ 0 ≤ k ∧ k < xs.length ∧ Q () (σ.put a (.list (xs.set k.toNat v)))
  | _, _, _ => pfail
def dput (es : List (Int × LV)) (k : Int) (v : LV) : List (Int × LV) := if es.any (fun kv => kv.1 = k) then es.map (fun kv => if kv.1 = k then (kv.1, v) else kv) else es ++ [(k, v)]
def ddel (es : List (Int × LV)) (k : Int) : List (Int × LV) := es.filter fun kv => decide (kv.1 ≠ k)
def pdset : LV → LV → LV → PTx Unit
  | .ref a, .int k, v => fun Q _ σ => ∃ es ep, σ.heap a = some (.dict es ep) ∧ es.length + 1 ≤ cap ∧ ∀ ep', Q () (σ.put a (.dict (dput es k v) ep'))
  | _, _, _ => pfail
def pddel : LV → LV → PTx Unit
  | .ref a, .int k => fun Q _ σ => ∃ es ep, σ.heap a = some (.dict es ep) ∧ (es.lookup k).isSome = true ∧ ∀ ep', Q () (σ.put a (.dict (ddel es k) ep'))
  | _, _ => pfail

theorem ERel.lookup {h : Heap} {es : List (Int × LV)} {kvs : List (Int × Value)} (r : ERel h es kvs) (k : Int) : OV h (es.lookup k) (valueAt kvs k) := by
  induction r with
  | nil => exact True.intro
  | @cons k' a v es kvs x r ih =>
    unfold valueAt at ih ⊢
    rw [List.lookup_cons, List.find?_cons]
    by_cases q : k = k'
    · subst q; simpa [OV] using x
    · rw [show (k == k') = false from by simpa using q, show decide (k' = k) = false from by simpa using Ne.symm q]
      exact ih
theorem ERel.length {h : Heap} {es : List (Int × LV)} {kvs : List (Int × Value)} (r : ERel h es kvs) : es.length = kvs.length := by
  induction r with
  | nil => rfl
  | cons x _ ih => exact congrArg (· + 1) ih
theorem ERel.any {h : Heap} (k : Int) {es : List (Int × LV)} {kvs : List (Int × Value)} (r : ERel h es kvs) : es.any (fun kv => kv.1 = k) = kvs.any (fun kv => kv.1 = k) := by
  induction r with
  | nil => rfl
  | @cons k' _ _ _ _ x _ ih => exact congrArg (decide (k' = k) || ·) ih
theorem ERel.append {h : Heap} {es fs : List (Int × LV)} {kvs gs : List (Int × Value)} (r : ERel h es kvs) (q : ERel h fs gs) : ERel h (es ++ fs) (kvs ++ gs) := by
  induction r with
  | nil => exact q
  | cons x _ ih => exact .cons x ih
theorem ERel.mapSet {h : Heap} {k : Int} {a : LV} {v : Value} (y : VRel h a v) {es : List (Int × LV)} {kvs : List (Int × Value)} (r : ERel h es kvs) :
    ERel h (es.map (fun kv => if kv.1 = k then (kv.1, a) else kv)) (kvs.map (fun kv => if kv.1 = k then (kv.1, v) else kv)) := by
  induction r with
  | nil => exact .nil
  | @cons k' _ _ _ _ x _ ih =>
    rw [List.map_cons, List.map_cons]
    by_cases q : k' = k
    · rw [if_pos q, if_pos q]; exact .cons y ih
    · rw [if_neg q, if_neg q]; exact .cons x ih
theorem ERel.put {h : Heap} {k : Int} {a : LV} {v : Value} (y : VRel h a v) {es : List (Int × LV)} {kvs : List (Int × Value)} (r : ERel h es kvs) : ERel h (dput es k a) (stored kvs k v) := by
  unfold dput stored
  rw [r.any k]
  split
  · exact r.mapSet y
  · exact r.append (.cons y .nil)
theorem ERel.del {h : Heap} (k : Int) {es : List (Int × LV)} {kvs : List (Int × Value)} (r : ERel h es kvs) : ERel h (ddel es k) (without kvs k) := by
  induction r with
  | nil => exact .nil
  | @cons k' _ _ _ _ x _ ih =>
    unfold ddel without at ih ⊢
    by_cases q : k' = k
    · rw [List.filter_cons_of_neg (by simp [q]), List.filter_cons_of_neg (by simp [q])]; exact ih
    · rw [List.filter_cons_of_pos (by simp [q]), List.filter_cons_of_pos (by simp [q])]; exact .cons x ih
theorem dput_length (es : List (Int × LV)) (k : Int) (v : LV) : (dput es k v).length ≤ es.length + 1 := by
  unfold dput; split <;> simp
theorem ddel_length (es : List (Int × LV)) (k : Int) : (ddel es k).length ≤ es.length := by unfold ddel; exact List.length_filter_le ..

section
variable {prog : Program} {w : World} {TS : TopS} {c : Cx} {A : Around} {env : Env} {σ : LS} {s : Shared} {n : Nat}

theorem VRels.getA {h : Heap} {xs : List LV} {items : Array Value} (r : VRels h xs items.toList) {i : Nat} {a : LV} (e : xs[i]? = some a) : ∃ v, items[i]? = some v ∧ VRel h a v := by
  obtain ⟨v, h1, h2⟩ := r.get e
  exact ⟨v, by simpa using h1, h2⟩
theorem VRels.sizeA {h : Heap} {xs : List LV} {items : Array Value} (r : VRels h xs items.toList) : items.size = xs.length := by
  have := r.length; simpa using this.symm
theorem cap_big : (cap : Int) < 2 ^ 60 := by decide

/-- the tail of a subscript -/
def Tail2 (prog : Program) (w : World) (TS : TopS) (n : Nat) (A : Around) (env : Env) (value slice : Expr) (p : LV → LV → PTx LV) : Prop := Sim2 prog w TS n A env (subscriptTail value slice) VRel p
theorem sim_Subscript {value slice : Expr} {pos : Pos} {mo mi : PTx LV} {p : LV → LV → PTx LV} (ho : Sim prog w TS n A env (eval value env) VRel mo) (hi : Sim prog w TS n A env (eval slice env) VRel mi) (hp : Tail2 prog w TS n A env value slice p) :
    Sim prog w TS n A env (eval (.Subscript value slice pos) env) VRel (pbind mo fun a => pbind mi fun b => p a b) := fun c σ s W h Q E q =>
  Subscript_ ((ho c σ s W h).go (Imm.refl _) q fun a x σ₁ s₁ ra h₁ i₁ j₁ q₁ => (hi c σ₁ s₁ W h₁).go i₁ q₁ fun b y σ₂ s₂ rb h₂ i₂ j₂ q₂ => (hp c σ₂ s₂ a x b y W h₂ (ra.imm j₂) rb).fin i₂ q₂)

theorem tail_plget {value slice : Expr} (hs : ∀ o i, subscripted slice false o i = operate [o, i] (getItem o i)) : Tail2 prog w TS n A env value slice plget := fun c σ s a x b y W h ra rb Q E q => by
  unfold plget at q; split at q
  · obtain ⟨xs, v, e, h0, hx, q⟩ := q
    cases ra.ref_inv; obtain ⟨t, rfl⟩ := rb.int_inv
    obtain ⟨hz, it, n1, l1, r1⟩ := h.list_at e
    obtain ⟨u, h1, h2⟩ := r1.getA hx
    have hlt := (List.getElem?_eq_some_iff.mp hx).1
    have := cap_big
    exact tail_any l1.isList.typeIs slot_list_getitem.lookup (wpAny_getItem_list l1.isList h0 (by omega) h1 ⟨v, σ, h2, h, Imm.refl _, q⟩) (hs _ _)
  · exact q.elim
theorem tail_pllast {value slice : Expr} (hs : ∀ o i, subscripted slice false o i = operate [o, i] (getItem o i)) : Tail2 prog w TS n A env value slice pllast := fun c σ s a x b y W h ra rb Q E q => by
  unfold pllast at q; split at q
  · obtain ⟨rfl, xs, v, e, hx, q⟩ := q
    cases ra.ref_inv; obtain ⟨t, rfl⟩ := rb.int_inv
    obtain ⟨hz, it, n1, l1, r1⟩ := h.list_at e
    have hsz := r1.sizeA
    rw [List.getLast?_eq_getElem?] at hx
    have hlt := (List.getElem?_eq_some_iff.mp hx).1
    obtain ⟨u, h1, h2⟩ := r1.getA hx
    have e9 : ((-1 : Int) + (it.size : Int)).toNat = xs.length - 1 := by omega
    exact tail_any l1.isList.typeIs slot_list_getitem.lookup (wpAny_getItem_list_neg l1.isList (by decide) (by omega) (by decide) (by rw [e9]; exact h1) ⟨v, σ, h2, h, Imm.refl _, q⟩) (hs _ _)
  · exact q.elim
theorem newExc_at {nm : String} {h' : Heap} {tk : Nat} {e : Addr} (h : Rel prog w c env σ s) (N : Heap.NewExc s.heap h' e nm) (hx : nm = "IndexError" ∨ nm = "StopIteration") :
    ExcAt c env σ h' ⟨nm, false⟩ (.ref e) ∧ Rel prog w c env σ { s with heap := h', toks := tk } ∧ Imm s.heap h' := by
  have k := N.keeps
  have hn := N.new
  obtain ⟨ob, args, e1, e2, e3⟩ := N.there
  refine ⟨⟨e, ob, _, rfl, ⟨e1, e2, hx, e3, ⟨?_, ?_, ?_⟩, by simp, fun _ => rfl⟩, .inl rfl⟩, h.keeps k, Imm.of_keeps k⟩
  · cases q : c.base.get? e with
    | none => rfl
    | some o => have := h.keep _ _ q; rw [hn] at this; cases this
  · cases q : σ.heap e with
    | none => rfl
    | some o => obtain ⟨ob, e', _⟩ := (h.obj _ o q).notImm; rw [hn] at e'; cases e'
  · rintro p hp rfl
    obtain ⟨og, g, _⟩ := h.guard p hp
    rw [hn] at g; cases g
theorem tail_plitem {value slice : Expr} (hh : A.handled = none) (hs : ∀ o i, subscripted slice false o i = operate [o, i] (getItem o i)) : Tail2 prog w TS n A env value slice plitem := fun c σ s a x b y W h ra rb Q E q => by
  unfold plitem at q; split at q
  · obtain ⟨xs, e, h0, hk, q⟩ := q
    cases ra.ref_inv; obtain ⟨t, rfl⟩ := rb.int_inv
    obtain ⟨hz, it, n1, l1, r1⟩ := h.list_at e
    have hsz := r1.sizeA
    split at q
    · rename_i v hx
      obtain ⟨u, h1, h2⟩ := r1.getA hx
      exact tail_any l1.isList.typeIs slot_list_getitem.lookup (wpAny_getItem_list l1.isList h0 (by omega) h1 ⟨v, σ, h2, h, Imm.refl _, q⟩) (hs _ _)
    · rename_i hx
      have hge := List.getElem?_eq_none_iff.mp hx
      refine tail_any l1.isList.typeIs slot_list_getitem.lookup (wpAny_getItem_list_out hh l1.isList (.inr (by omega)) (by omega) (by omega) fun h' tk e N => ?_) (hs _ _)
      obtain ⟨z1, z2, z3⟩ := newExc_at (tk := tk) h N (.inl rfl)
      exact ⟨_, σ, z1, z2, z3, q⟩
  · exact q.elim
theorem tail_ptget {value slice : Expr} (hs : ∀ o i, subscripted slice false o i = operate [o, i] (getItem o i)) : Tail2 prog w TS n A env value slice ptget := fun c σ s a x b y W h ra rb Q E q => by
  unfold ptget at q; split at q
  · rename_i k
    obtain ⟨v, h0, hz, hx, q⟩ := q
    obtain ⟨t, items, n1, rfl, e, r⟩ := ra.tup_inv
    obtain ⟨u, rfl⟩ := rb.int_inv
    obtain ⟨y, h1, h2⟩ := r.get hx
    have hlt := (List.getElem?_eq_some_iff.mp hx).1
    have hl := r.length
    refine item_tupleT (l := items) ⟨_, e, rfl, _, rfl⟩ (by omega) (by omega) (j := k.toNat) ?_ h1 ⟨v, σ, h2, h, Imm.refl _, q⟩ (hs _ _)
    exact seqIndex_of h0 (by omega)
  · exact q.elim
theorem Rel.dict_ep (h : Rel prog w c env σ s) {a ep : Nat} {es : List (Int × LV)} (e : σ.heap a = some (.dict es ep)) : es.length ≤ cap ∧ ∃ kvs, s.heap.DictAt (intKind prog w) a kvs ep ∧ ERel s.heap es kvs := h.obj a _ e
theorem Rel.dict_at (h : Rel prog w c env σ s) {a ep : Nat} {es : List (Int × LV)} (e : σ.heap a = some (.dict es ep)) : es.length ≤ cap ∧ ∃ kvs, s.heap.DictOf (intKind prog w) a kvs ∧ ERel s.heap es kvs := let ⟨hz, kvs, d, r⟩ := h.dict_ep e; ⟨hz, kvs, d.dictOf, r⟩
theorem Rel.not_sysm (W : WF TS n c A env) (h : Rel prog w c env σ s) {a : Nat} {o : LO} (e : σ.heap a = some o) : (a == sysModules) = false := by
  rw [beq_eq_false_iff_ne]
  rintro rfl
  obtain ⟨o', q⟩ := W.top.sysm
  rw [(h.dom _ o e).1] at q; cases q
theorem int_is (k : Int) (t : Tok) : (intKind prog w).is k (.int k t) = true := intKind_is prog w k t
theorem tail_pdget {value slice : Expr} (hs : ∀ o i, subscripted slice false o i = operate [o, i] (getItem o i)) : Tail2 prog w TS n A env value slice pdget := fun c σ s a x b y W h ra rb Q E q => by
  unfold pdget at q; split at q
  · obtain ⟨es, ep, v, e, hx, q⟩ := q
    cases ra.ref_inv; obtain ⟨t, rfl⟩ := rb.int_inv
    obtain ⟨hz, kvs, d1, r1⟩ := h.dict_at e
    obtain ⟨u, h1, h2⟩ := OV.some_left (hx ▸ r1.lookup _)
    exact tail_any d1.typeIs slot_dict_getitem.lookup (wpAny_getItem_of (int_is _ _) d1.mapOf h1 ⟨v, σ, h2, h.toks _, Imm.refl _, q⟩) (hs _ _)
  · exact q.elim

-- stores
def Sim3 (prog : Program) (w : World) (TS : TopS) (n : Nat) (A : Around) (env : Env) (f : Value → Value → Value → Sem Unit) (m : LV → LV → LV → PTx Unit) : Prop :=
  ∀ c σ s a x b y d z, WF TS n c A env → Rel prog w c env σ s → VRel s.heap a x → VRel s.heap b y → VRel s.heap d z → At prog w c A env (f x y z) REq (m a b d) σ s
theorem sim_plset : Sim3 prog w TS n A env setItem plset := fun c σ s a x b y d z W h ra rb rd Q E q => by
  unfold plset at q; split at q
  · rename_i a k
    obtain ⟨xs, e, h0, hk, q⟩ := q
    cases ra.ref_inv; obtain ⟨t, rfl⟩ := rb.int_inv
    obtain ⟨hz, it, n1, l1, r1⟩ := h.list_at e
    have hsz := r1.sizeA
    have := cap_big
    have k := (Heap.SameBut.update s.heap a (Obj.mapSeq (·.setIfInBounds k.toNat z))).extBut
    have im := h.update_imm e k
    refine ki_setAt l1 h0 (by omega) (by omega) ⟨(), _, rfl, h.update (tk := s.toks) (o' := .list _) e k ⟨?_, _, _, l1.update _, ?_⟩, im, q⟩
    · simpa using hz
    · simpa using (r1.set _ rd).imm im
  · exact q.elim
theorem sim_pdset : Sim3 prog w TS n A env setItem pdset := fun c σ s a x b y d z W h ra rb rd Q E q => by
  unfold pdset at q; split at q
  · obtain ⟨es, ep, e, hk, q⟩ := q
    cases ra.ref_inv; obtain ⟨t, rfl⟩ := rb.int_inv
    obtain ⟨hz, kvs, d1, r1⟩ := h.dict_at e
    have hl := r1.length
    have := cap_le
    refine wpAny_setItem_pairs (int_is _ _) d1 (fun h' hd hs => ?_) (by omega)
    have im := h.update_imm e hs.extBut
    obtain ⟨ep', hd'⟩ := hd.dictAt
    exact ⟨(), _, rfl, h.update (o' := .dict _ ep') e hs.extBut ⟨Nat.le_trans (dput_length ..) hk, _, hd', (r1.put rd).imm im⟩, im, q ep'⟩
  · exact q.elim
theorem sim_pddel : Sim2 prog w TS n A env delItem REq pddel := fun c σ s a x b y W h ra rb Q E q => by
  unfold pddel at q; split at q
  · obtain ⟨es, ep, e, hk, q⟩ := q
    cases ra.ref_inv; obtain ⟨t, rfl⟩ := rb.int_inv
    obtain ⟨hz, kvs, d1, r1⟩ := h.dict_at e
    have hl := r1.length
    have := cap_le
    unfold delItem
    try with_reducible refine wpAny_holding ?_
    refine wpAny_bind (wpAny_sequenceKey d1.typeIs (by decide) ?_)
    refine wpAny_bind (wpAny_callSpecial?_slot (name := Str.ofString "__delitem__") d1.typeIs F.slot_dict_delitem
      (call_meetsIn F.slot_dict_delitem d1.typeIs F.entry_dict_delitem (F.args_dict_delitem_2 _ _) (meets_dict_delitem_pairs (intKind prog w) _ (int_is _ _)) ⟨kvs, d1, by omega, ?_, fun h' hmm hs => ?_⟩))
    · cases q9 : es.lookup _ with
      | none => rw [q9] at hk; cases hk
      | some v => obtain ⟨u, h1, h2⟩ := OV.some_left (q9 ▸ r1.lookup _); rw [h1]; rfl
    · have im := h.update_imm e hs.extBut
      obtain ⟨ep', hd'⟩ := hmm.dictAt
      exact wpAny_pure ⟨(), _, rfl, h.update (o' := .dict _ ep') e hs.extBut ⟨Nat.le_trans (ddel_length ..) hz, _, hd', (r1.del _).imm im⟩, im, q ep'⟩
  · exact q.elim
end
end Mine
end
noncomputable section
open PySem PySem.W PyProof.Rows PySem.Calls PySem.SeqAt
set_option Elab.async false
set_option linter.unusedVariables false
namespace Mine

def pseqL : List (LV → PTx Unit) → List LV → PTx Unit
  | [], [] => pret ()
  | t :: ts, v :: vs => pbind (t v) fun _ => pseqL ts vs
  | _, _ => pfail
def punpack (ts : List (LV → PTx Unit)) : LV → PTx Unit
  | .tup vs => pseqL ts vs
  | _ => pfail
/-- x in list of ints -/
def plin : LV → LV → PTx Bool
  | .int k, .ref a => fun Q _ σ => ∃ is : List Int, σ.heap a = some (.list (is.map .int)) ∧ Q (is.contains k) σ
  | _, _ => pfail
def plnotin : LV → LV → PTx Bool
  | .int k, .ref a => fun Q _ σ => ∃ is : List Int, σ.heap a = some (.list (is.map .int)) ∧ Q (!is.contains k) σ
  | _, _ => pfail
def pdin : LV → LV → PTx Bool
  | .int k, .ref a => fun Q _ σ => ∃ es ep, σ.heap a = some (.dict es ep) ∧ Q (es.lookup k).isSome σ
  | _, _ => pfail
def psin : LV → LV → PTx Bool
  | .int k, .ref a => fun Q _ σ => ∃ S n, σ.heap a = some (.set S n) ∧ Q (S k) σ
  | _, _ => pfail
def plist (vs : List LV) : PTx LV := fun Q _ σ => vs.length ≤ cap ∧ ∀ a, σ.heap a = none → Q (.ref a) (σ.put a (.list vs))
def ptuple (vs : List LV) : PTx LV := fun Q _ σ => vs.length ≤ cap ∧ Q (.tup vs) σ
def pdict0 : PTx LV := fun Q _ σ => ∀ a, σ.heap a = none → Q (.ref a) (σ.put a (.dict [] 0))
/-- two lists of ints compared -/
def pleq : LV → LV → PTx Bool
  | .ref a, .ref b => fun Q _ σ => ∃ is js : List Int, σ.heap a = some (.list (is.map .int)) ∧ σ.heap b = some (.list (js.map .int)) ∧ Q (is == js) σ
  | _, _ => pfail
/-- a list of anything compared with the empty list -/
def pleq0 : LV → LV → PTx Bool
  | .ref a, .ref b => fun Q _ σ => ∃ xs, σ.heap a = some (.list xs) ∧ σ.heap b = some (.list []) ∧ Q xs.isEmpty σ
  | _, _ => pfail
def pnot (m : LV → LV → PTx Bool) (a b : LV) : PTx Bool := fun Q E σ => m a b (fun z σ' => Q (!z) σ') E σ
/-- xs[i:], xs[:j] -/
def pfrom : LV → LV → PTx LV
  | .ref a, .int k => fun Q _ σ => ∃ xs, σ.heap a = some (.list xs) ∧ 0 ≤ k ∧ ∀ d, σ.heap d = none → Q (.ref d) (σ.put d (.list (xs.drop k.toNat)))
  | _, _ => pfail

section
variable {prog : Program} {w : World} {TS : TopS} {c : Cx} {A : Around} {env : Env} {σ : LS} {s : Shared} {n : Nat}

-- targets
theorem sim_tName {x : String} {pos : Pos} (hk : StoreOk env x) : Sim1 prog w TS n A env (assign (.Name (Str.ofString x) pos) env) REq (pset x) := fun c σ s a v W h ra Q E q =>
  wpAny_assign_Name ((at_store hk W h ra).fin (Imm.refl _) q)
theorem sim_tSub {o i : Expr} {pos : Pos} {mo mi : PTx LV} {p : LV → LV → LV → PTx Unit} (ho : Sim prog w TS n A env (eval o env) VRel mo) (hi : Sim prog w TS n A env (eval i env) VRel mi) (hp : Sim3 prog w TS n A env setItem p) :
    Sim1 prog w TS n A env (assign (.Subscript o i pos) env) REq (fun v => pbind mo fun a => pbind mi fun b => p a b v) := fun c σ s a v W h ra Q E q => by
  rw [arm_assign_Subscript]
  refine wpAny_bind (wpAny_holding ((ho c σ s W h).go (Imm.refl _) q fun b x σ₁ s₁ rb h₁ i₁ j₁ q₁ => ?_))
  refine wpAny_bind (wpAny_holding ((hi c σ₁ s₁ W h₁).go i₁ q₁ fun d y σ₂ s₂ rd h₂ i₂ j₂ q₂ => ?_))
  refine wpAny_bind (wpAny_standAt (wpAny_bind (wpAny_holding ((hp c σ₂ s₂ b x d y a v W h₂ (rb.imm j₂) rd ((ra.imm j₁).imm j₂)).go i₂ q₂ fun e z σ₃ s₃ re h₃ i₃ j₃ q₃ => ?_))))
  exact wpAny_release ⟨(), σ₃, rfl, h₃, i₃, q₃⟩

/-- what a list of targets does -/
inductive SimTs (prog : Program) (w : World) (TS : TopS) (n : Nat) (A : Around) (env : Env) : List (Bool × (Value → Sem Unit)) → List (LV → PTx Unit) → Prop
  | nil : SimTs prog w TS n A env [] []
  | cons {t : Value → Sem Unit} {ts : List (Bool × (Value → Sem Unit))} {m : LV → PTx Unit} {ms : List (LV → PTx Unit)} : Sim1 prog w TS n A env t REq m → SimTs prog w TS n A env ts ms → SimTs prog w TS n A env ((false, t) :: ts) (m :: ms)
theorem SimTs.length {ts ms} (r : SimTs prog w TS n A env ts ms) : ts.length = ms.length := by
  induction r with
  | nil => rfl
  | cons _ _ ih => exact congrArg (· + 1) ih
theorem SimTs.star {ts ms} (r : SimTs prog w TS n A env ts ms) : ts.findIdx? (·.1) = none := by
  induction r with
  | nil => rfl
  | cons _ _ ih => rw [List.findIdx?_cons, ih]; rfl
theorem SimTs.run {ts ms} (ht : SimTs prog w TS n A env ts ms) {vs : List LV} {xs : List Value} {σ : LS} {s : Shared} {h0 : Heap} {Q : Unit → LS → Prop} {E : LX → LS → Prop} (W : WF TS n c A env) (h : Rel prog w c env σ s) (i0 : Imm h0 s.heap) (r : VRels s.heap vs xs) (q : pseqL ms vs Q E σ) :
    wpAny (model prog w) A (assignInOrder (ts.map (·.2)) xs) (Post prog w c env REq h0 Q) (EPost prog w c env h0 E) s := by
  induction ht generalizing vs xs σ s with
  | nil =>
    cases vs with
    | nil => cases r.nil_inv; exact wpAny_pure ⟨(), σ, rfl, h, i0, q⟩
    | cons => exact q.elim
  | cons ht _ ih =>
    cases vs with
    | nil => exact q.elim
    | cons v vs =>
      obtain ⟨x, xs, rfl, rx, r⟩ := r.cons_inv
      exact wpAny_bind (wpAny_holding ((ht _ σ s _ _ W h rx).go i0 q fun _ _ σ₁ s₁ _ h₁ i₁ j₁ q₁ => ih h₁ i₁ (r.imm j₁) q₁))
theorem sim_tTuple {elts : List Expr} {k : Nat} {pos : Pos} {ms : List (LV → PTx Unit)} (hh : A.handled = none) (ht : SimTs prog w TS n A env (assignEach elts env) ms) :
    Sim1 prog w TS n A env (assign (.Tuple elts k pos) env) REq (fun v => fun Q E σ => (∃ vs, v = .tup vs ∧ vs.length = ms.length) ∧ punpack ms v Q E σ) := fun c σ s a v W h ra Q E q => by
  obtain ⟨⟨vs, rfl, hl⟩, q⟩ := q
  obtain ⟨t, items, n1, rfl, e, r⟩ := ra.tup_inv
  have hlen := r.length
  refine wpAny_assign_Tuple hh ⟨_, e, rfl, _, rfl⟩ (by rw [ht.length, List.size_toArray]; omega) ht.star fun h' hx => ?_
  have k9 : ∀ b o, s.heap.get? b = some o → h'.get? b = some o := fun b o e => hx b o (Nat.ne_of_lt (Heap.lt_size e)) e
  have im := Imm.of_keeps k9
  exact ht.run W (h.keeps (tk := s.toks) k9) im (r.imm im) q

-- assignments
theorem sim_Assign {target e : Expr} {pos : Pos} {m : PTx LV} {p : LV → PTx Unit} (h1 : Sim prog w TS n A env (eval e env) VRel m) (ht : Sim1 prog w TS n A env (assign target env) REq p) (hst : assignEach [target] env = [(false, assign target env)])
    (hs : swapsWithSole [target] e pos.line env = pure false) (hw : swappedStores [target] e env = pure none) :
    Sim prog w TS n A env (exec (.Assign [target] e pos) env) FlRel (pbind m fun v => pbind (p v) fun _ => pret .next) := fun c σ s W h Q E q => by
  refine wpAny_Assign_stores ((h1 c σ s W h).go (Imm.refl _) q fun a v σ₁ s₁ ra h₁ i₁ j₁ q₁ => ?_) hs hw
  rw [hst]
  exact (ht c σ₁ s₁ a v W h₁ ra).go i₁ q₁ fun _ _ σ₂ s₂ _ h₂ i₂ j₂ q₂ => ⟨_, σ₂, .next, h₂, i₂, q₂⟩
theorem sim_Assign2 {t1 t2 e : Expr} {pos : Pos} {m : PTx LV} {p1 p2 : LV → PTx Unit} (h1 : Sim prog w TS n A env (eval e env) VRel m) (ht1 : Sim1 prog w TS n A env (assign t1 env) REq p1) (ht2 : Sim1 prog w TS n A env (assign t2 env) REq p2) (hst : assignEach [t1, t2] env = [(false, assign t1 env), (false, assign t2 env)]) (hw : swappedStores [t1, t2] e env = pure none) :
    Sim prog w TS n A env (exec (.Assign [t1, t2] e pos) env) FlRel (pbind m fun v => pbind (p1 v) fun _ => pbind (p2 v) fun _ => pret .next) := fun c σ s W h Q E q => by
  refine wpAny_Assign_stores ((h1 c σ s W h).go (Imm.refl _) q fun a v σ₁ s₁ ra h₁ i₁ j₁ q₁ => ?_) rfl hw
  rw [hst]
  exact wpAny_bind (wpAny_holding ((ht1 c σ₁ s₁ a v W h₁ ra).go i₁ q₁ fun _ _ σ₂ s₂ _ h₂ i₂ j₂ q₂ => (ht2 c σ₂ s₂ a v W h₂ (ra.imm j₂)).go i₂ q₂ fun _ _ σ₃ s₃ _ h₃ i₃ j₃ q₃ => ⟨_, σ₃, .next, h₃, i₃, q₃⟩))
theorem sim_NamedExpr {t e : Expr} {pos : Pos} {m : PTx LV} {p : LV → PTx Unit} (h1 : Sim prog w TS n A env (eval e env) VRel m) (ht : Sim1 prog w TS n A env (assign t env) REq p) :
    Sim prog w TS n A env (eval (.NamedExpr t e pos) env) VRel (pbind m fun v => pbind (p v) fun _ => pret v) := fun c σ s W h Q E q =>
  wpAny_NamedExpr ((h1 c σ s W h).go (Imm.refl _) q fun a v σ₁ s₁ ra h₁ i₁ j₁ q₁ => (ht c σ₁ s₁ a v W h₁ ra).go i₁ q₁ fun _ _ σ₂ s₂ _ h₂ i₂ j₂ q₂ => ⟨_, σ₂, ra.imm j₂, h₂, i₂, q₂⟩)
theorem sim_Delete {o i : Expr} {pos pos' : Pos} {mo mi : PTx LV} {p : LV → LV → PTx Unit} (ho : Sim prog w TS n A env (eval o env) VRel mo) (hi : Sim prog w TS n A env (eval i env) VRel mi) (hp : Sim2 prog w TS n A env delItem REq p) :
    Sim prog w TS n A env (exec (.Delete [.Subscript o i pos'] pos) env) FlRel (pbind mo fun a => pbind mi fun b => pbind (p a b) fun _ => pret .next) := fun c σ s W h Q E q =>
  wpAny_Delete (wpAny_deleteEach_cons (wpAny_delete_Subscript ((ho c σ s W h).go (Imm.refl _) q fun a x σ₁ s₁ ra h₁ i₁ j₁ q₁ => (hi c σ₁ s₁ W h₁).go i₁ q₁ fun b y σ₂ s₂ rb h₂ i₂ j₂ q₂ => (hp c σ₂ s₂ a x b y W h₂ (ra.imm j₂) rb).go i₂ q₂ fun _ _ σ₃ s₃ _ h₃ i₃ j₃ q₃ =>
    wpAny_deleteEach_nil ⟨_, σ₃, .next, h₃, i₃, q₃⟩)))

-- membership
theorem ints_inv {h : Heap} {is : List Int} {vs : List Value} (r : VRels h (is.map .int) vs) : IntsAre vs is := by
  induction is generalizing vs with
  | nil => cases r.nil_inv; exact .nil
  | cons i is ih => obtain ⟨v, vs, rfl, x, r'⟩ := r.cons_inv; obtain ⟨t, rfl⟩ := x.int_inv; exact .cons i t (ih r')
theorem eqAt_int {A' : Around} {s : Shared} (i k : Int) (t u : Tok) : EqAt A' s (.int i t) (.int k u) (i == k) := fun prog w E Q h => wpAny_eqBool_int h
def eqInt (k : Int) : Value → Bool
  | .int i _ => i == k
  | _ => false
theorem any_ints {k : Int} {vs : List Value} {is : List Int} (r : IntsAre vs is) : vs.any (eqInt k) = is.contains k := by
  induction r with
  | nil => rfl
  | cons i t _ ih => rw [List.any_cons, ih, List.contains_cons, BEq.comm (a := k)]; rfl
theorem mem_ints {vs : List Value} {is : List Int} (r : IntsAre vs is) : ∀ v ∈ vs, ∃ i t, v = .int i t := by
  induction r with
  | nil => exact fun _ h => nomatch h
  | cons i t _ ih =>
    intro v h
    rcases List.mem_cons.mp h with rfl | h
    · exact ⟨i, t, rfl⟩
    · exact ih v h
theorem sim_plin : Sim2 prog w TS n A env (compareOp .In) RB plin := fun c σ s a x b y W h ra rb Q E q => by
  unfold plin at q; split at q
  · obtain ⟨is, e, q⟩ := q
    obtain ⟨t, rfl⟩ := ra.int_inv; cases rb.ref_inv
    obtain ⟨hz, it, n1, l1, r1⟩ := h.list_at e
    have hi := ints_inv r1
    rename_i k a
    refine in_listAt (eqInt k) l1.isList (fun y hy => ?_) ⟨_, σ, ?_, h, Imm.refl _, q⟩
    · obtain ⟨i, u, rfl⟩ := mem_ints hi y (by simpa using hy)
      exact eqAt_int i k u t
    · show _ = _; rw [← any_ints hi]; simp
  · exact q.elim
theorem sim_plnotin : Sim2 prog w TS n A env (compareOp .NotIn) RB plnotin := fun c σ s a x b y W h ra rb Q E q => by
  unfold plnotin at q; split at q
  · obtain ⟨is, e, q⟩ := q
    obtain ⟨t, rfl⟩ := ra.int_inv; cases rb.ref_inv
    obtain ⟨hz, it, n1, l1, r1⟩ := h.list_at e
    have hi := ints_inv r1
    rename_i k a
    refine notIn_listAt (eqInt k) l1.isList (fun y hy => ?_) ⟨_, σ, ?_, h, Imm.refl _, q⟩
    · obtain ⟨i, u, rfl⟩ := mem_ints hi y (by simpa using hy)
      exact eqAt_int i k u t
    · show _ = _; rw [← any_ints hi]; simp
  · exact q.elim
theorem OV.isSome {h : Heap} {a : Option LV} {v : Option Value} (x : OV h a v) : a.isSome = v.isSome := by
  cases a <;> cases v <;> first | rfl | exact x.elim
theorem sim_pdin : Sim2 prog w TS n A env (compareOp .In) RB pdin := fun c σ s a x b y W h ra rb Q E q => by
  unfold pdin at q; split at q
  · obtain ⟨es, ep, e, q⟩ := q
    obtain ⟨t, rfl⟩ := ra.int_inv; cases rb.ref_inv
    obtain ⟨hz, kvs, d1, r1⟩ := h.dict_at e
    exact wpAny_in_of (int_is _ _) (h.not_sysm W e) d1.mapOf ⟨_, σ, by show _ = _; rw [(r1.lookup _).isSome], h.toks _, Imm.refl _, q⟩
  · exact q.elim
theorem sim_psin : Sim2 prog w TS n A env (compareOp .In) RB psin := fun c σ s a x b y W h ra rb Q E q => by
  unfold psin at q; split at q
  · obtain ⟨S, m, e, q⟩ := q
    obtain ⟨t, rfl⟩ := ra.int_inv; cases rb.ref_inv
    obtain ⟨hz, d1⟩ := h.obj _ _ e
    exact wpAny_inSet_of (int_is _ _) rfl d1 ⟨_, σ, rfl, h.toks _, Imm.refl _, q⟩
  · exact q.elim

-- displays
theorem sim_args_nil : Sim prog w TS n A env (spliced []) VRels (pret []) := fun c σ s W h Q E q => spliced_nil ⟨[], σ, .nil, h, Imm.refl _, q⟩
theorem sim_args_cons {t : Sem Value} {rest : List (Bool × Sem Value)} {m : PTx LV} {k : PTx (List LV)} (h1 : Sim prog w TS n A env t VRel m) (h2 : Sim prog w TS n A env (spliced rest) VRels k) :
    Sim prog w TS n A env (spliced ((false, t) :: rest)) VRels (pbind m fun a => pbind k fun as => pret (a :: as)) := fun c σ s W h Q E q =>
  spliced_cons ((h1 c σ s W h).go (Imm.refl _) q fun a v σ₁ s₁ ra h₁ i₁ j₁ q₁ => (h2 c σ₁ s₁ W h₁).go i₁ q₁ fun as vs σ₂ s₂ ras h₂ i₂ j₂ q₂ => ⟨a :: as, σ₂, .cons (ra.imm j₂) ras, h₂, i₂, q₂⟩)
/-- the arguments of a call, as they are written -/
abbrev argT (pos : Pos) (es : List Expr) (env : Env) : List (Bool × Sem Value) := backTo pos (starEach es env)
theorem sim_arg_nil {pos : Pos} : Sim prog w TS n A env (spliced (argT pos [] env)) VRels (pret []) := sim_args_nil
theorem sim_arg {pos : Pos} {e : Expr} {es : List Expr} {m : PTx LV} {k : PTx (List LV)} (h1 : Sim prog w TS n A env (eval e env) VRel m) (h2 : Sim prog w TS n A env (spliced (argT pos es env)) VRels k)
    (he : starEach (e :: es) env = (false, eval e env) :: starEach es env) : Sim prog w TS n A env (spliced (argT pos (e :: es) env)) VRels (pbind m fun a => pbind k fun as => pret (a :: as)) := by
  unfold argT; rw [he]; exact sim_args_cons h1 h2
theorem sim_List {es : List Expr} {pos : Pos} {m : PTx (List LV)} (h1 : Sim prog w TS n A env (spliced (argT pos es env)) VRels m) : Sim prog w TS n A env (eval (.List es pos) env) VRel (pbind m plist) := fun c σ s W h Q E q => by
  refine wpAny_List_spliced ((h1 c σ s W h).go (Imm.refl _) q fun as vs σ₁ s₁ ra h₁ i₁ j₁ q₁ => ?_)
  have hl := ra.length
  have := cap_le
  have k : ∀ b o, s₁.heap.get? b = some o → (s₁.heap.push { cls := .type "list", data := .seq vs.toArray }).get? b = some o := fun b o e => Heap.get?_push_of_some _ e
  refine ⟨by have := q₁.1; omega, _, _, .ref _, h₁.alloc (tk := s₁.toks) (o := .list as) k ⟨q₁.1, _, 0, Heap.get?_push_size _ rfl, by simpa using ra.imm (Imm.of_keeps k)⟩, i₁.trans (Imm.of_keeps k), q₁.2 _ h₁.fresh_obj⟩
theorem sim_Tuple {es : List Expr} {pos : Pos} {x1 : Nat} {m : PTx (List LV)} (h1 : Sim prog w TS n A env (spliced (argT pos es env)) VRels m) : Sim prog w TS n A env (eval (.Tuple es x1 pos) env) VRel (pbind m ptuple) := fun c σ s W h Q E q => by
  refine wpAny_Tuple_spliced ((h1 c σ s W h).go (Imm.refl _) q fun as vs σ₁ s₁ ra h₁ i₁ j₁ q₁ => ?_)
  have hl := ra.length
  have := cap_le
  have k : ∀ b o, s₁.heap.get? b = some o → (s₁.heap.push { cls := .type "tuple", data := .seq vs.toArray }).get? b = some o := fun b o e => Heap.get?_push_of_some _ e
  exact ⟨by have := q₁.1; omega, _, _, .tup (items := vs) (n := 0) (Heap.get?_push_size _ rfl) (ra.imm (Imm.of_keeps k)), h₁.keeps (tk := s₁.toks) k, i₁.trans (Imm.of_keeps k), q₁.2⟩
theorem sim_Dict0 {pos : Pos} : Sim prog w TS n A env (eval (.Dict [] [] pos) env) VRel pdict0 := fun c σ s W h Q E q => by
  have k : ∀ b o, s.heap.get? b = some o → (s.heap.push { cls := .type "dict", data := .dict #[] }).get? b = some o := fun b o e => Heap.get?_push_of_some _ e
  exact wpAny_Dict_empty ⟨_, _, .ref _, h.alloc (tk := s.toks) (o := .dict [] 0) k ⟨Nat.zero_le _, [], ⟨_, #[], Heap.get?_push_size _ rfl, ⟨rfl, rfl, rfl⟩, rfl, fun _ he => by simp at he, Pairs.nil, List.nodup_nil⟩, .nil⟩, Imm.of_keeps k, q _ h.fresh_obj⟩

-- lists compared
theorem ints_range {is js : List Int} (hl : is.length = js.length) : (List.range is.length).all (fun j => is[j]? == js[j]?) = (is == js) := by
  rw [Bool.eq_iff_iff]
  simp only [List.all_eq_true, List.mem_range, beq_iff_eq]
  constructor
  · intro h
    apply List.ext_getElem? 
    intro i
    by_cases hi : i < is.length
    · exact h i hi
    · rw [List.getElem?_eq_none (by omega), List.getElem?_eq_none (by omega)]
  · rintro rfl i hi; rfl
theorem IntsAre.getA {items : Array Value} {is : List Int} (hi : IntsAre items.toList is) {j : Nat} (h1 : j < items.size) : ∃ i t, items[j] = .int i t ∧ is[j]? = some i := by
  have hlen := hi.length
  simp only [Array.length_toList] at hlen
  have hj : j < is.length := by omega
  obtain ⟨t, ht⟩ := hi.get j is[j] (by simp [hj])
  refine ⟨is[j], t, ?_, by simp [hj]⟩
  have : items.toList[j]? = some items[j] := by simp [h1]
  rw [this] at ht; exact Option.some.inj ht
theorem sim_pleq0 : Sim2 prog w TS n A env (compareOp .Eq) RB pleq0 := fun c σ s a x b y W h ra rb Q E q => by
  unfold pleq0 at q; split at q
  · obtain ⟨xs, e1, e2, q⟩ := q
    cases ra.ref_inv; cases rb.ref_inv
    obtain ⟨hz, it, n1, l1, r1⟩ := h.list_at e1
    obtain ⟨hz2, it2, n2, l2, r2⟩ := h.list_at e2
    have s1 := r1.sizeA; have s2 := r2.sizeA
    have hu : A.units < cLine := Nat.lt_of_le_of_lt (Nat.le_add_right _ _) W.units
    cases xs with
    | nil => 
      simp only [List.length_nil] at s1 s2
      refine eq_listAt (e := fun _ => true) l1.isList l2.isList (by omega) hu (fun j h1 h2 => absurd h1 (by omega)) ⟨_, σ, ?_, h, Imm.refl _, q⟩
      show _ = _; rw [s1]; rfl
    | cons v vs =>
      simp only [List.length_nil, List.length_cons] at s1 s2
      exact eq_list_lengthsAt l1.isList l2.isList (by simp; omega) hu ⟨_, σ, rfl, h, Imm.refl _, q⟩
  · exact q.elim
end
end Mine
end
noncomputable section
open PySem PySem.W PyProof.Rows PySem.Calls PySem.SeqAt
set_option Elab.async false
set_option linter.unusedVariables false
namespace Mine

def pislist : LV → PTx Unit
  | .ref a => fun Q _ σ => (∃ xs, σ.heap a = some (.list xs)) ∧ Q () σ
  | _ => pfail
def pisdict : LV → PTx Unit
  | .ref a => fun Q _ σ => (∃ es ep, σ.heap a = some (.dict es ep)) ∧ Q () σ
  | _ => pfail
def pisset : LV → PTx Unit
  | .ref a => fun Q _ σ => (∃ S n, σ.heap a = some (.set S n)) ∧ Q () σ
  | _ => pfail
def plappend : LV → List LV → PTx LV
  | .ref a, [v] => fun Q _ σ => ∃ xs, σ.heap a = some (.list xs) ∧ xs.length + 1 ≤ cap ∧ Q .none (σ.put a (.list (xs ++ [v])))
  | _, _ => pfail
def plpop : LV → List LV → PTx LV
  | .ref a, [] => fun Q _ σ => ∃ xs v, σ.heap a = some (.list xs) ∧ xs.getLast? = some v ∧ Q v (σ.put a (.list xs.dropLast))
  | _, _ => pfail
def plclear : LV → List LV → PTx LV
  | .ref a, [] => fun Q _ σ => ∃ xs, σ.heap a = some (.list xs) ∧ Q .none (σ.put a (.list []))
  | _, _ => pfail
def on1 (f : LV → PTx LV) : List LV → PTx LV
  | [v] => f v
  | _ => pfail
theorem on1_inv {f : LV → PTx LV} {as : List LV} {Q : LV → LS → Prop} {E : LX → LS → Prop} {σ : LS} (q : on1 f as Q E σ) : ∃ v, as = [v] ∧ f v Q E σ := by
  cases as with
  | nil => exact q.elim
  | cons v as => cases as with
    | nil => exact ⟨v, rfl, q⟩
    | cons => exact q.elim
def onR (f : Nat → PTx LV) : LV → PTx LV
  | .ref a => f a
  | _ => pfail
theorem onR_inv {f : Nat → PTx LV} {v : LV} {Q : LV → LS → Prop} {E : LX → LS → Prop} {σ : LS} (q : onR f v Q E σ) : ∃ a, v = .ref a ∧ f a Q E σ := by
  cases v <;> first | exact q.elim | exact ⟨_, rfl, q⟩
def onRT (f : Nat → PTx LV) (g : List LV → PTx LV) (k : PTx LV) : LV → PTx LV
  | .ref a => f a
  | .tup vs => g vs
  | _ => k
theorem onRT_inv {f : Nat → PTx LV} {g : List LV → PTx LV} {v : LV} {Q : LV → LS → Prop} {E : LX → LS → Prop} {σ : LS} (q : onRT f g pfail v Q E σ) : (∃ a, v = .ref a ∧ f a Q E σ) ∨ ∃ vs, v = .tup vs ∧ g vs Q E σ := by
  cases v <;> first | exact q.elim | exact .inl ⟨_, rfl, q⟩ | exact .inr ⟨_, rfl, q⟩
def plextend : LV → List LV → PTx LV
  | .ref a, as => on1 (onRT (fun b Q _ σ => ∃ xs ys, σ.heap a = some (.list xs) ∧ σ.heap b = some (.list ys) ∧ xs.length + ys.length ≤ cap ∧ Q .none (σ.put a (.list (xs ++ ys))))
    (fun ys Q _ σ => ∃ xs, σ.heap a = some (.list xs) ∧ xs.length + ys.length ≤ cap ∧ Q .none (σ.put a (.list (xs ++ ys)))) pfail) as
  | _, _ => pfail
def plremove : LV → List LV → PTx LV
  | .ref a, [.int k] => fun Q _ σ => ∃ is : List Int, σ.heap a = some (.list (is.map .int)) ∧ k ∈ is ∧ Q .none (σ.put a (.list ((is.erase k).map .int)))
  | _, _ => pfail
def pdget1 : LV → List LV → PTx LV
  | .ref a, [.int k] => fun Q _ σ => ∃ es ep, σ.heap a = some (.dict es ep) ∧ Q ((es.lookup k).getD .none) σ
  | _, _ => pfail
def psadd : LV → List LV → PTx LV
  | .ref a, [.int k] => fun Q _ σ => ∃ S n, σ.heap a = some (.set S n) ∧ n < 1000 ∧ Q .none (σ.put a (.set (fun k' => S k' || decide (k' = k)) (if S k then n else n + 1)))
  | _, _ => pfail
def plen : List LV → PTx LV := on1 (onRT (fun a Q _ σ => ∃ xs, σ.heap a = some (.list xs) ∧ Q (.int xs.length) σ) (fun vs Q _ σ => vs.length ≤ cap ∧ Q (.int vs.length) σ) pfail)
def psorted : List LV → PTx LV := on1 (onR fun a Q _ σ => ∃ is : List Int, σ.heap a = some (.list (is.map .int)) ∧ is.length < 64 ∧ ∀ js : List Int, js.Perm is → js.Pairwise (· ≤ ·) → ∀ d, σ.heap d = none → Q (.ref d) (σ.put d (.list (js.map .int))))
def psum : List LV → PTx LV := on1 (onR fun a Q _ σ => ∃ is : List Int, σ.heap a = some (.list (is.map .int)) ∧ Q (.int is.sum) σ)
def plistof1 : LV → PTx LV
  | .ref a => fun Q _ σ => ∃ xs, σ.heap a = some (.list xs) ∧ ∀ d, σ.heap d = none → Q (.ref d) (σ.put d (.list xs))
  | .tup xs => fun Q _ σ => xs.length ≤ cap ∧ ∀ d, σ.heap d = none → Q (.ref d) (σ.put d (.list xs))
  | .rng a b c => fun Q _ σ => c = 1 ∧ a = 0 ∧ 0 ≤ b ∧ b ≤ 1000 ∧ ∀ d, σ.heap d = none → Q (.ref d) (σ.put d (.list ((List.range b.toNat).map fun (i : Nat) => LV.int (i : Int))))
  | _ => pfail
def plistof : List LV → PTx LV := on1 plistof1
def ptupof : List LV → PTx LV := on1 (onR fun a Q _ σ => ∃ xs, σ.heap a = some (.list xs) ∧ Q (.tup xs) σ)
def pset0 : List LV → PTx LV
  | [] => fun Q _ σ => ∀ d, σ.heap d = none → Q (.ref d) (σ.put d (.set (fun _ => false) 0))
  | _ => pfail
def pintof : List LV → PTx LV
  | [.int i] => pret (.int i)
  | _ => pfail
def prange1 : List LV → PTx LV
  | [.int b] => pret (.rng 0 b 1)
  | _ => pfail
def prange3 : List LV → PTx LV := fun as Q _ σ => ∃ a b c : Int, as = [.int a, .int b, .int c] ∧ (c ≠ 0 ∧ c.natAbs < 2 ^ 20) ∧ Q (.rng a b c) σ
def piter : List LV → PTx LV := on1 (onR fun a Q _ σ => ∃ xs, σ.heap a = some (.list xs) ∧ ∀ d, σ.heap d = none → Q (.ref d) (σ.put d (.iter a 0)))

section
variable {prog : Program} {w : World} {TS : TopS} {c : Cx} {A : Around} {env : Env} {σ : LS} {s : Shared} {n : Nat}

-- evaluation of a call's arguments, the callee a built-in or a type
theorem evalArgs_go {f : Value} {args : List (Bool × Sem Value)} {Q : Args → Shared → Prop} {E : Value → Shared → Prop} {M : Model} (hns : args.any (·.1) = false) (h : wpAny M A (spliced args) (fun vs s' => Q ⟨vs, []⟩ s') E s) : wpAny M A (evalArgs f true args []) Q E s := by
  cases args with
  | nil =>
    unfold evalArgs
    show wpAny M A (spliced [] >>= _) Q E s
    refine wpAny_bind (wpAny_mono h (fun vs s' h' => ?_) fun _ _ x => x)
    exact wpAny_bind (wpAny_pure (wpAny_holding (wpAny_bind (wpAny_pure (wpAny_bind (wpAny_pure (wpAny_pure h')))))))
  | cons a r =>
    obtain ⟨b, t⟩ := a
    have hb : b = false := by simp at hns; exact hns.1
    subst hb
    exact evalArgs_plain h
def machine : Value → Bool
  | .ref _ => false
  | _ => true
theorem keeper_machine {f : Value} (hm : machine f = true) : keeperOf f = pure .machine := by
  cases f <;> first | rfl | cases hm
theorem callWith_machine {f : Value} {first : List Value} {pos : Pos} {args : List (Bool × Sem Value)} {Q : Value → Shared → Prop} {E : Value → Shared → Prop} {M : Model} (hm : machine f = true) (hns : args.any (·.1) = false)
    (h : wpAny M A (spliced args) (fun vs s' => wpAny M A (call f (first ++ vs)) Q E s') E s) : wpAny M A (callWith pos f first args []) Q E s := by
  unfold callWith
  refine wpAny_bind (wpAny_holding (evalArgs_go hns (wpAny_mono h (fun vs s' h' => ?_) fun _ _ x => x)))
  refine wpAny_bind (wpAny_standAt ?_)
  simp only [hns, List.any_nil, Bool.or_false]
  refine wpAny_bind (wpAny_of_eq (keeper_machine hm) ?_)
  exact wpAny_bind (wpAny_mono h' (fun r s₂ hr => wpAny_bind (wpAny_holding (wpAny_point (wpAny_pure hr)))) fun _ _ x => x)

theorem sim_CallB {f : String} {v : Value} {es : List Expr} {np pos : Pos} {m : PTx (List LV)} {p : List LV → PTx LV} (hv : TS.gl f = some v) (hm : machine v = true) (hk : env.kindOf (Str.ofString f) = some .globalImplicit) (hd : (Str.ofString f == ("__debug__" : Str)) = false)
    (hns : (argT pos es env).any (·.1) = false) (ha : Sim prog w TS n A env (spliced (argT pos es env)) VRels m) (hp : SimL prog w TS n A env (fun vs => call v vs) VRel p) :
    Sim prog w TS n A env (eval (.Call (.Name (Str.ofString f) np) es [] pos) env) VRel (pbind m p) := fun c σ s W h Q E q => by
  refine wpAny_Call_ofName (at_glob hv hk hd W h (callWith_machine hm hns ?_))
  exact (ha c σ s W h).go (Imm.refl _) q fun as vs σ₁ s₁ ra h₁ i₁ j₁ q₁ => (hp c σ₁ s₁ as vs W h₁ ra).fin i₁ q₁

-- methods of built-in types
def SimM (prog : Program) (w : World) (TS : TopS) (n : Nat) (A : Around) (env : Env) (id : String) (p : LV → List LV → PTx LV) : Prop :=
  ∀ c σ s a x as xs, WF TS n c A env → Rel prog w c env σ s → VRel s.heap a x → VRels s.heap as xs → At prog w c A env (call (.builtin id) (x :: xs)) VRel (p a as) σ s
/-- the object is of the type T, as the transformer ck says -/
def IsOf (prog : Program) (w : World) (T : String) (ck : LV → PTx Unit) : Prop :=
  ∀ (c : Cx) (env : Env) (σ : LS) (s : Shared) (a : LV) (x : Value) (Q : Unit → LS → Prop) (E : LX → LS → Prop), Rel prog w c env σ s → VRel s.heap a x → ck a Q E σ → s.TypeIs x T ∧ (∀ b, x = .ref b → ∃ ob, s.heap.get? b = some ob ∧ ob.dict = none) ∧ Q () σ
theorem isOf_list : IsOf prog w "list" pislist := fun c env σ s a x Q E h ra q => by
  unfold pislist at q; split at q
  · obtain ⟨⟨xs, e⟩, q⟩ := q
    cases ra.ref_inv
    obtain ⟨hz, it, n1, l1, r1⟩ := h.list_at e
    exact ⟨⟨_, l1, rfl⟩, fun b hb => by cases hb; exact ⟨_, l1, rfl⟩, q⟩
  · exact q.elim
theorem isOf_dict : IsOf prog w "dict" pisdict := fun c env σ s a x Q E h ra q => by
  unfold pisdict at q; split at q
  · obtain ⟨⟨xs, ep, e⟩, q⟩ := q
    cases ra.ref_inv
    obtain ⟨hz, kvs, d1, r1⟩ := h.dict_at e
    refine ⟨d1.typeIs, fun b hb => ?_, q⟩
    cases hb
    obtain ⟨ob, es, ep, e1, e2, _⟩ := d1
    exact ⟨ob, e1, e2.2.1⟩
  · exact q.elim
theorem isOf_set : IsOf prog w "set" pisset := fun c env σ s a x Q E h ra q => by
  unfold pisset at q; split at q
  · obtain ⟨⟨S, m, e⟩, q⟩ := q
    cases ra.ref_inv
    obtain ⟨hz, d1⟩ := h.obj _ _ e
    refine ⟨d1.typeIs, fun b hb => ?_, q⟩
    cases hb
    obtain ⟨ob, es, ep, t, e1, e2, _⟩ := d1
    exact ⟨ob, e1, e2.2.1⟩
  · exact q.elim

theorem sim_CallM {o : Expr} {name : String} {T id : String} {es : List Expr} {apos pos : Pos} {mo : PTx LV} {ck : LV → PTx Unit} {m : PTx (List LV)} {p : LV → List LV → PTx LV} (pa : PlainAttrs T) (slot : Slot T (Str.ofString name) id) (hty : typeOf (.builtin id) = pure (.type "method_descriptor"))
    (hbase : attributeBase o (Str.ofString name) env (eval o env) = eval o env)
    (hfew : ((backTo pos (starEach es env)).all (fun x => !x.1) && (backToKw pos (keywordEach [] env)).all (fun x => x.1.isSome) && decide (es.length + ([] : List Keyword).length + (if ([] : List Keyword).isEmpty then 0 else 1) < 30)) = true)
    (hline : (apos.endLine == pos.line) = true) (hns : (argT pos es env).any (·.1) = false)
    (ho : Sim prog w TS n A env (eval o env) VRel mo) (hck : IsOf prog w T ck) (ha : Sim prog w TS n A env (spliced (argT pos es env)) VRels m) (hp : SimM prog w TS n A env id p) :
    Sim prog w TS n A env (eval (.Call (.Attribute o (Str.ofString name) apos) es [] pos) env) VRel (pbind mo fun a => pbind (ck a) fun _ => pbind m fun as => p a as) := fun c σ s W h Q E q => by
  refine wpAny_Call_method hbase hfew hline pa slot hty ((ho c σ s W h).go (Imm.refl _) q fun a x σ₁ s₁ ra h₁ i₁ j₁ q₁ => ?_)
  obtain ⟨t1, t2, q₂⟩ := hck c env σ₁ s₁ a x _ E h₁ ra q₁
  refine ⟨t1, t2, callWith_machine rfl hns ?_⟩
  exact (ha c σ₁ s₁ W h₁).go i₁ q₂ fun as vs σ₂ s₂ ras h₂ i₂ j₂ q₃ => (hp c σ₂ s₂ a x as vs W h₂ (ra.imm j₂) ras).fin i₂ q₃

-- the methods
theorem lupd (h : Rel prog w c env σ s) {a : Nat} {xs ys : List LV} {it : Array Value} {n1 : Nat} (e : σ.heap a = some (.list xs)) (l1 : IsL s.heap a it n1) (f : Array Value → Array Value) {Q : LV → LS → Prop} {v : LV} {x : Value} (hz : ys.length ≤ cap) (hr : VRels s.heap ys (f it).toList) (hv : VRel s.heap v x) (q : Q v (σ.put a (.list ys))) :
    Post prog w c env VRel s.heap Q x { s with heap := s.heap.update a (Obj.mapSeq f) } := by
  have k := (Heap.SameBut.update s.heap a (Obj.mapSeq f)).extBut
  have im := h.update_imm e k
  exact ⟨v, _, hv.imm im, h.update (tk := s.toks) (o' := .list ys) e k ⟨hz, _, _, l1.update f, hr.imm im⟩, im, q⟩
theorem VRels.one_inv {h : Heap} {a : LV} {xs : List Value} (r : VRels h [a] xs) : ∃ x, xs = [x] ∧ VRel h a x := by
  obtain ⟨v, vs, rfl, x, r⟩ := r.cons_inv; cases r.nil_inv; exact ⟨_, rfl, x⟩
theorem VRels.two_inv {h : Heap} {a b : LV} {xs : List Value} (r : VRels h [a, b] xs) : ∃ x y, xs = [x, y] ∧ VRel h a x ∧ VRel h b y := by
  obtain ⟨v, vs, rfl, x, r⟩ := r.cons_inv; obtain ⟨y, rfl, ry⟩ := r.one_inv; exact ⟨_, _, rfl, x, ry⟩
theorem VRels.dropLast {h : Heap} {as : List LV} {vs : List Value} (r : VRels h as vs) : VRels h as.dropLast vs.dropLast := by
  rw [List.dropLast_eq_take, List.dropLast_eq_take, ← r.length]; exact r.take _
theorem eraseLast (it : Array Value) : (it.eraseIdxIfInBounds (it.size - 1)).toList = it.toList.dropLast := by
  rw [Array.toList_eraseIdxIfInBounds]
  apply List.ext_getElem?
  intro i
  rw [List.getElem?_eraseIdx, List.getElem?_dropLast]
  simp only [Array.length_toList]
  split
  · rfl
  · rw [List.getElem?_eq_none (by simp; omega)]

theorem sim_append : SimM prog w TS n A env "list.append" plappend := fun c σ s a x as xs W h ra ras Q E q => by
  unfold plappend at q; split at q
  · obtain ⟨ys, e, hz, q⟩ := q
    cases ra.ref_inv; obtain ⟨y, rfl, ry⟩ := ras.one_inv
    obtain ⟨hz', it, n1, l1, r1⟩ := h.list_at e
    have := cap_le; have := r1.sizeA
    exact call_meets F.slot_list_append ⟨_, l1, rfl⟩ F.entry_list_append (F.args_list_append_2 _ _) (PySem.list_append _ it n1 y (by omega)) ⟨l1, lupd h e l1 _ (by simpa using hz) (by simpa using r1.append (.one ry)) .none q⟩
  · exact q.elim
theorem sim_pop : SimM prog w TS n A env "list.pop" plpop := fun c σ s a x as xs W h ra ras Q E q => by
  unfold plpop at q; split at q
  · obtain ⟨ys, v, e, hv, q⟩ := q
    cases ra.ref_inv; cases ras.nil_inv
    obtain ⟨hz', it, n1, l1, r1⟩ := h.list_at e
    have := cap_le; have hsz := r1.sizeA
    rw [List.getLast?_eq_getElem?] at hv
    obtain ⟨u, h1, h2⟩ := r1.getA hv
    exact call_meets F.slot_list_pop ⟨_, l1, rfl⟩ F.entry_list_pop (F.args_list_pop_1 _) (MeetsSeq.list_pop_last _ it n1 u (by rw [hsz]; exact h1) (by omega)) ⟨l1, lupd h e l1 _ (by simp; omega) (by rw [eraseLast]; exact r1.dropLast) h2 q⟩
  · exact q.elim
theorem sim_clear : SimM prog w TS n A env "list.clear" plclear := fun c σ s a x as xs W h ra ras Q E q => by
  unfold plclear at q; split at q
  · obtain ⟨ys, e, q⟩ := q
    cases ra.ref_inv; cases ras.nil_inv
    obtain ⟨hz', it, n1, l1, r1⟩ := h.list_at e
    have := cap_le; have hsz := r1.sizeA
    exact call_meets F.slot_list_clear ⟨_, l1, rfl⟩ F.entry_list_clear (F.args_list_clear_1 _) (AutoSeq1.list_clear_list_0 _ it n1 (by omega)) ⟨l1, lupd h e l1 _ (Nat.zero_le _) .nil .none q⟩
  · exact q.elim
theorem sim_extend : SimM prog w TS n A env "list.extend" plextend := fun c σ s a x as xs W h ra ras Q E q => by
  obtain ⟨_, rfl, q⟩ : ∃ a', a = .ref a' ∧ plextend (.ref a') as Q E σ := by cases a <;> first | exact q.elim | exact ⟨_, rfl, q⟩
  obtain ⟨_, rfl, q⟩ := on1_inv q
  rcases onRT_inv q with ⟨_, rfl, q⟩ | ⟨_, rfl, q⟩
  · obtain ⟨ys, zs, e, e2, hz, q⟩ := q
    cases ra.ref_inv; obtain ⟨y, rfl, ry⟩ := ras.one_inv; cases ry.ref_inv
    obtain ⟨hz', it, n1, l1, r1⟩ := h.list_at e
    obtain ⟨hz2, it2, n2, l2, r2⟩ := h.list_at e2
    have := cap_le; have := r1.sizeA; have := r2.sizeA
    exact call_meets F.slot_list_extend ⟨_, l1, rfl⟩ F.entry_list_extend (F.args_list_extend_2 _ _) (AutoSeq1.list_extend_list_list_0 _ it n1 _ it2 n2 (extend_door (by omega)) (by omega) (by omega)) ⟨l1, l2, lupd h e l1 _ (by simpa using hz) (by simpa using r1.append r2) .none q⟩
  · obtain ⟨ys, e, hz, q⟩ := q
    cases ra.ref_inv; obtain ⟨y, rfl, ry⟩ := ras.one_inv
    obtain ⟨t, items, n2, rfl, e2, r2⟩ := ry.tup_inv
    obtain ⟨hz', it, n1, l1, r1⟩ := h.list_at e
    have := cap_le; have := r1.sizeA; have := r2.length
    exact call_meets F.slot_list_extend ⟨_, l1, rfl⟩ F.entry_list_extend (F.args_list_extend_2 _ _) (AutoSeq1.list_extend_list_tuple_0 _ it n1 _ items.toArray n2 (extend_door (by simp; omega)) (by omega) (by simp; omega)) ⟨l1, e2, lupd h e l1 _ (by simpa using hz) (by simpa using r1.append r2) .none q⟩
theorem sim_get1 : SimM prog w TS n A env "dict.get" pdget1 := fun c σ s a x as xs W h ra ras Q E q => by
  unfold pdget1 at q; split at q
  · obtain ⟨es, ep, e, q⟩ := q
    cases ra.ref_inv; obtain ⟨y, rfl, ry⟩ := ras.one_inv; obtain ⟨t, rfl⟩ := ry.int_inv
    obtain ⟨hz, kvs, d1, r1⟩ := h.dict_at e
    rename_i b k
    refine call_meetsIn F.slot_dict_get d1.typeIs F.entry_dict_get (F.args_dict_get_2 _ _) (meets_dict_get (intKind prog w) _ (int_is k t) (h.not_sysm W e)) ⟨_, d1.mapOf, ?_⟩
    have ov := r1.lookup k
    refine ⟨_, σ, ?_, h.toks _, Imm.refl _, q⟩
    cases h1 : es.lookup k with
    | none => rw [h1] at ov; cases h2 : valueAt kvs k with
      | none => exact .none
      | some u => rw [h2] at ov; exact ov.elim
    | some v => obtain ⟨u, h3, h4⟩ := OV.some_left (h1 ▸ ov); rw [h3]; exact h4
  · exact q.elim
theorem sim_sadd : SimM prog w TS n A env "set.add" psadd := fun c σ s a x as xs W h ra ras Q E q => by
  unfold psadd at q; split at q
  · obtain ⟨S, m, e, hm, q⟩ := q
    cases ra.ref_inv; obtain ⟨y, rfl, ry⟩ := ras.one_inv; obtain ⟨t, rfl⟩ := ry.int_inv
    obtain ⟨hz, d1⟩ := h.obj _ _ e
    refine call_set_add (int_is _ t) rfl d1 (by unfold scanBound; omega) fun h' hs hS => ?_
    have im := h.update_imm e hs.extBut
    refine ⟨.none, _, .none, h.update (o' := .set _ _) e hs.extBut ⟨?_, hS⟩, im, q⟩
    have : (1000 : Nat) ≤ cap := by decide
    split <;> omega
  · exact q.elim
end
end Mine
end
noncomputable section
open PySem PySem.W PyProof.Rows PySem.Calls PySem.SeqAt
set_option Elab.async false
set_option linter.unusedVariables false
namespace Mine
section
variable {prog : Program} {w : World} {TS : TopS} {c : Cx} {A : Around} {env : Env} {σ : LS} {s : Shared} {n : Nat}

theorem sim_len : SimL prog w TS n A env (fun vs => call (.builtin "len") vs) VRel plen := fun c σ s as xs W h ras Q E q => by
  obtain ⟨_, rfl, q⟩ := on1_inv q
  rcases onRT_inv q with ⟨_, rfl, q⟩ | ⟨_, rfl, q⟩
  · obtain ⟨ys, e, q⟩ := q
    obtain ⟨y, rfl, ry⟩ := ras.one_inv; cases ry.ref_inv
    obtain ⟨hz', it, n1, l1, r1⟩ := h.list_at e
    have := cap_big; have hsz := r1.sizeA
    refine len_list l1.isList (by omega) ⟨_, σ, ?_, h.toks _, Imm.refl _, q⟩
    rw [hsz]; exact .int _ _
  · obtain ⟨hz, q⟩ := q
    obtain ⟨y, rfl, ry⟩ := ras.one_inv
    obtain ⟨t, items, n2, rfl, e2, r2⟩ := ry.tup_inv
    have := cap_big; have hsz := r2.length
    refine len_tuple (items := items.toArray) ⟨_, e2, rfl, _, rfl⟩ (by simp; omega) ⟨_, σ, ?_, h.toks _, Imm.refl _, q⟩
    rw [List.size_toArray, ← hsz]; exact .int _ _
theorem vrels_ints {h : Heap} {vs : List Value} {is : List Int} (r : IntsAre vs is) : VRels h (is.map .int) vs := by
  induction r with
  | nil => exact .nil
  | cons i t _ ih => exact .cons (.int i t) ih
theorem sim_sorted : SimL prog w TS n A env (fun vs => call (.builtin "sorted") vs) VRel psorted := fun c σ s as xs W h ras Q E q => by
  obtain ⟨_, rfl, q⟩ := on1_inv q
  obtain ⟨_, rfl, q⟩ := onR_inv q
  · obtain ⟨is, e, h64, q⟩ := q
    obtain ⟨y, rfl, ry⟩ := ras.one_inv; cases ry.ref_inv
    obtain ⟨hz', it, n1, l1, r1⟩ := h.list_at e
    have hi := ints_inv r1
    have hsz := r1.sizeA
    simp only [List.length_map] at hsz
    refine sorted_ints (vs := it.toList) (by simpa using l1.isList) hi (by simpa [hsz] using h64) fun out js hj hp hs => ?_
    obtain ⟨e9, he⟩ := sortedAll_at s.heap it.toList out
    have k : ∀ b o, s.heap.get? b = some o → (sortedAll s.heap it.toList out).get? b = some o := fun _ _ => sortedAll_old
    have im := Imm.of_keeps k
    have hfr : ∀ d, s.heap.objs.size ≤ d → σ.heap d = none := fun d hd => by
      cases q9 : σ.heap d with
      | none => rfl
      | some o => obtain ⟨ob, e', _⟩ := (h.obj _ o q9).notImm; exact absurd (Heap.lt_size e') (Nat.not_lt.mpr hd)
    have hlen := hp.length_eq
    have h1 := h.keeps (tk := s.toks) k
    refine ⟨_, _, .ref _, ?_, im, q js hp hs _ (hfr _ (Nat.le_succ _))⟩
    refine ⟨h1.keep, h1.guard, h1.ns, h1.cell, h1.cin, fun b o₂ e₂ => ?_, fun b o₂ e₂ => ?_, h.gens, h.os, h.drawn⟩
    · simp only [LS.put] at e₂
      by_cases z : b = s.heap.objs.size + 1
      · rw [if_pos z] at e₂; cases e₂; rw [z]
        exact ⟨by simp only [List.length_map] at hz' ⊢; omega, out, e9, he, vrels_ints hj⟩
      · rw [if_neg z] at e₂; exact h1.obj b o₂ e₂
    · simp only [LS.put] at e₂
      by_cases z : b = s.heap.objs.size + 1
      · rw [z]
        have far : ∀ b o, s.heap.get? b = some o → b ≠ s.heap.objs.size + 1 := fun b o e => Nat.ne_of_lt (Nat.lt_succ_of_lt (Heap.lt_size e))
        refine ⟨?_, ?_, fun p hp => ?_, fun y hy => ?_⟩
        · cases q9 : c.base.get? (s.heap.objs.size + 1) with
          | none => rfl
          | some o => exact absurd rfl (far _ _ (h.keep _ _ q9))
        · obtain ⟨m, ⟨o, _, _, e1, _⟩, _⟩ := h.ns; exact Ne.symm (far _ _ e1)
        · obtain ⟨og, g, _⟩ := h.guard p hp; exact far _ _ g
        · obtain ⟨v, oc, e1, _⟩ := h.cin y hy; exact far _ _ e1
      · rw [if_neg z] at e₂; exact h.dom b o₂ e₂
theorem preSum_list (is : List Int) : ∀ n, n ≤ is.length → preSum (fun i => is[i]?.getD 0) n = (is.take n).sum
  | 0, _ => by simp [preSum]
  | n + 1, hn => by
    have h9 : n < is.length := by omega
    rw [preSum, preSum_list is n (by omega), List.take_succ_eq_append_getElem h9, List.sum_append]
    simp [h9]
theorem sim_sum (hh : A.handled = none) : SimL prog w TS n A env (fun vs => call (.builtin "sum") vs) VRel psum := fun c σ s as xs W h ras Q E q => by
  obtain ⟨_, rfl, q⟩ := on1_inv q
  obtain ⟨a, rfl, q⟩ := onR_inv q
  · obtain ⟨is, e, q⟩ := q
    obtain ⟨y, rfl, ry⟩ := ras.one_inv; cases ry.ref_inv
    obtain ⟨hz', it, n1, l1, r1⟩ := h.list_at e
    have hi := ints_inv r1
    have hsz := r1.sizeA
    simp only [List.length_map] at hsz
    have hne : a ≠ s.heap.objs.size := Nat.ne_of_lt (Heap.lt_size l1)
    refine call_sum_walkG (wpAny_pyIter_list l1.isList ⟨_, _, _, _, _, _, (fun i => is[i]?.getD 0), rfl, Walks.list (A := A.in1) hh s.heap.objs.size a hne it, ⟨⟨_, Heap.get?_push_size _ rfl, rfl, rfl⟩, l1.isList.at fun o e => Heap.get?_push_of_some _ e⟩, ?_, ?_, ?_⟩)
    · intro b hb
      rw [Heap.size_push]
      simp at hb
      rcases hb with rfl | rfl
      · exact Nat.lt_succ_self _
      · exact Nat.lt_succ_of_lt (Heap.lt_size l1)
    · intro i v hv
      have hlt : i < it.size := (Array.getElem?_eq_some_iff.mp hv).1
      obtain ⟨k, t, e1, e2⟩ := IntsAre.getA hi hlt
      have : v = it[i] := by rw [Array.getElem?_eq_getElem hlt] at hv; exact (Option.some.inj hv).symm
      exact ⟨t, by rw [this, e1]; simp only [e2]; rfl⟩
    · intro h' tk t' k
      have k' : ∀ b o, s.heap.get? b = some o → h'.get? b = some o := fun b o e => k b o (by simp; exact Nat.ne_of_lt (Heap.lt_size e)) (Heap.get?_push_of_some _ e)
      refine ⟨.int _, σ, ?_, h.keeps k', Imm.of_keeps k', q⟩
      rw [preSum_list is it.size (by omega), List.take_of_length_le (by omega)]; exact .int _ _
theorem alloc_post (h : Rel prog w c env σ s) {h' : Heap} {tk : Nat} {o : LO} {Q : LV → LS → Prop} (k : ∀ b o, s.heap.get? b = some o → h'.get? b = some o) (r : ORel prog w h' s.heap.objs.size o) (q : ∀ d, σ.heap d = none → Q (.ref d) (σ.put d o)) :
    Post prog w c env VRel s.heap Q (.ref s.heap.objs.size) { s with heap := h', toks := tk } := ⟨_, _, .ref _, h.alloc k r, Imm.of_keeps k, q _ h.fresh_obj⟩
theorem vrels_of_get {h : Heap} {as : List LV} {vs : List Value} (e : as.length = vs.length) (k : ∀ (i : Nat) a v, as[i]? = some a → vs[i]? = some v → VRel h a v) : VRels h as vs := by
  induction as generalizing vs with
  | nil => cases vs with | nil => exact .nil | cons => cases e
  | cons a as ih => cases vs with | nil => cases e | cons v vs => exact .cons (k 0 a v rfl rfl) (ih (Nat.succ.inj e) fun i a v h1 h2 => k (i + 1) a v h1 h2)
theorem vrels_range {h : Heap} {acc : Array Value} {m : Nat} (e : acc.size = m) (k : ∀ (j : Nat) v, acc[j]? = some v → ∃ t, v = Value.int (j : Int) t) : VRels h ((List.range m).map fun (i : Nat) => LV.int (i : Int)) acc.toList := by
  refine vrels_of_get (by simp [e]) fun i a v h1 h2 => ?_
  obtain ⟨t, rfl⟩ := k i v (by simpa using h2)
  rw [List.getElem?_map] at h1
  cases h3 : (List.range m)[i]? with
  | none => rw [h3] at h1; cases h1
  | some j =>
    rw [h3] at h1
    have : j = i := by
      have := List.getElem?_eq_some_iff.mp h3
      obtain ⟨hlt, hv⟩ := this
      simpa using hv.symm
    subst this
    cases h1; exact .int _ _
theorem sim_listof (hh : A.handled = none) : SimL prog w TS n A env (fun vs => call (.type "list") vs) VRel plistof := fun c σ s as xs W h ras Q E q => by
  obtain ⟨_, rfl, q1⟩ := on1_inv (f := plistof1) q
  unfold plistof1 at q1; clear q; split at q1
  · obtain ⟨ys, e, q⟩ := q1
    obtain ⟨y, rfl, ry⟩ := ras.one_inv; cases ry.ref_inv
    obtain ⟨hz', it, n1, l1, r1⟩ := h.list_at e
    have := cap_le; have hsz := r1.sizeA
    exact call_list_seq _ (.inl rfl) l1 rfl rfl (fun h' c' k hD => alloc_post h (o := .list ys) k ⟨hz', it, c', hD, r1.imm (Imm.of_keeps k)⟩ q) (by omega)
  · obtain ⟨hz, q⟩ := q1
    obtain ⟨y, rfl, ry⟩ := ras.one_inv
    obtain ⟨t, items, n2, rfl, e2, r2⟩ := ry.tup_inv
    have := cap_le; have hsz := r2.length
    exact call_list_seq _ (.inr rfl) e2 rfl rfl (fun h' c' k hD => alloc_post h (o := .list _) k ⟨hz, items.toArray, c', hD, by simpa using r2.imm (Imm.of_keeps k)⟩ q) (by simp; omega)
  · rename_i a b _
    obtain ⟨rfl, rfl, hb0, hb, q⟩ := q1
    obtain ⟨y, rfl, ry⟩ := ras.one_inv
    cases ry with
    | rng er =>
      have hn : Builtin.Range.rangeSize 0 b 1 = (b.toNat : Int) := by
        unfold Builtin.Range.rangeSize
        simp only [show ((1 : Int) > 0) = True from by simp, if_true]
        split
        · omega
        · omega
      have hcap : (1000 : Nat) ≤ cap := by decide
      refine call_list_range hh er ?_ hn (by have : (1000 : Nat) ≤ 2 ^ 24 := by decide
                                             omega) fun h' tk acc c' k hD hacc => alloc_post h (o := .list _) k ⟨by simp; omega, acc, c', hD, ?_⟩ q
      · exact small_one (by omega) (by omega) (by omega) (by omega)
      · obtain ⟨ha1, ha2⟩ := hacc
        exact vrels_range ha1 fun j v hj => by
          obtain ⟨t, ht⟩ := ha2 j v hj
          exact ⟨t, by simpa using ht⟩
  · exact q1.elim
theorem sim_tupof : SimL prog w TS n A env (fun vs => call (.type "tuple") vs) VRel ptupof := fun c σ s as xs W h ras Q E q => by
  obtain ⟨_, rfl, q⟩ := on1_inv q
  obtain ⟨_, rfl, q⟩ := onR_inv q
  · obtain ⟨ys, e, q⟩ := q
    obtain ⟨y, rfl, ry⟩ := ras.one_inv; cases ry.ref_inv
    obtain ⟨hz', it, n1, l1, r1⟩ := h.list_at e
    have := cap_le; have hsz := r1.sizeA
    refine call_tuple_list l1.isList (fun h' k => ?_) (by omega)
    have k' : ∀ b o, s.heap.get? b = some o → (h'.push { cls := .type "tuple", data := .seq it }).get? b = some o := fun b o e => Heap.get?_push_of_some _ (k b o e)
    exact ⟨_, σ, .tup (items := it.toList) (n := 0) (Heap.get?_push_size _ rfl) (r1.imm (Imm.of_keeps k')), h.keeps (tk := s.toks) k', Imm.of_keeps k', q⟩
theorem sim_set0 : SimL prog w TS n A env (fun vs => call (.type "set") vs) VRel pset0 := fun c σ s as xs W h ras Q E q => by
  unfold pset0 at q; split at q
  · cases ras.nil_inv
    refine call_set_0 fun led => alloc_post (tk := s.toks) h (o := .set (fun _ => false) 0) (fun b o e => Heap.get?_push_of_some _ e) ⟨Nat.zero_le _, ?_⟩ q
    exact ⟨_, #[], 0, _, Heap.get?_push_size _ rfl, ⟨rfl, rfl, rfl⟩, rfl, fun e he => by simp at he, fun k => by simp, by decide, by rfl, rfl⟩
  · exact q.elim
theorem sim_intof : SimL prog w TS n A env (fun vs => call (.type "int") vs) VRel pintof := fun c σ s as xs W h ras Q E q => by
  unfold pintof at q; split at q
  · obtain ⟨y, rfl, ry⟩ := ras.one_inv; obtain ⟨t, rfl⟩ := ry.int_inv
    exact call_int_int ⟨_, σ, .int _ _, h, Imm.refl _, q⟩
  · exact q.elim
theorem sim_range1 : SimL prog w TS n A env (fun vs => call (.type "range") vs) VRel prange1 := fun c σ s as xs W h ras Q E q => by
  unfold prange1 at q; split at q
  · obtain ⟨y, rfl, ry⟩ := ras.one_inv; obtain ⟨t, rfl⟩ := ry.int_inv
    refine call_range_1 ⟨_, σ, .rng (Heap.get?_push_size _ rfl), h.keeps fun b o e => Heap.get?_push_of_some _ e, Imm.of_keeps fun b o e => Heap.get?_push_of_some _ e, q⟩
  · exact q.elim
theorem sim_range3 : SimL prog w TS n A env (fun vs => call (.type "range") vs) VRel prange3 := fun c σ s as xs W h ras Q E q => by
  obtain ⟨_, _, _, rfl, ⟨hc, hc2⟩, q⟩ := q
  · obtain ⟨_, _, rfl, r1, r⟩ := ras.cons_inv
    · obtain ⟨y, z, rfl, ry, rz⟩ := r.two_inv
      obtain ⟨t1, rfl⟩ := r1.int_inv; obtain ⟨t2, rfl⟩ := ry.int_inv; obtain ⟨t3, rfl⟩ := rz.int_inv
      exact call_range_3 hc ⟨_, σ, .rng (Heap.get?_push_size _ rfl), h.keeps fun b o e => Heap.get?_push_of_some _ e, Imm.of_keeps fun b o e => Heap.get?_push_of_some _ e, q⟩ (.inl (PyProof.noPylong_small (by omega)))
theorem entry_iter9 : entryFor table "iter" = some Builtin.«iter» := entryFor_of_fast (by kernel_rfl)
theorem args_iter9 (a : Value) : argsOk "iter" ⟨[a], []⟩ := by unfold argsOk; kernel_rfl
theorem sim_iter : SimL prog w TS n A env (fun vs => call (.builtin "iter") vs) VRel piter := fun c σ s as xs W h ras Q E q => by
  obtain ⟨_, rfl, q⟩ := on1_inv q
  obtain ⟨a, rfl, q⟩ := onR_inv q
  · obtain ⟨ys, e, q⟩ := q
    obtain ⟨y, rfl, ry⟩ := ras.one_inv; cases ry.ref_inv
    obtain ⟨hz', it, n1, l1, r1⟩ := h.list_at e
    refine call_function_entry (by decide +kernel) (by decide +kernel) entry_iter9 (args_iter9 _) ?_
    unfold Builtin.«iter»
    refine wpAny_bind (m := someArgs "iter" 1 2 _) (wpAny_of_eq (a := [Value.ref a]) (by first | rfl | kernel_rfl!) ?_)
    show wpAny _ _ (pyIter (.ref a) >>= _) _ _ _
    refine wpAny_bind (wpAny_pyIter_list l1.isList ?_)
    exact wpAny_pure ⟨_, rfl, alloc_post (tk := s.toks) h (o := .iter a 0) (fun b o e => Heap.get?_push_of_some _ e) (Heap.get?_push_size _ rfl) q⟩
theorem eqGives_int (i k : Int) (t u : Tok) : MeetsSeq.EqGives (.int i t) (.int k u) (i == k) := fun prog w A E s Q h => wpAny_eqBool_int h
theorem erase_rel {h : Heap} {k : Int} : ∀ {is : List Int} {vs : List Value} {j : Nat}, VRels h (is.map .int) vs → is.findIdx? (· == k) = some j → VRels h ((is.erase k).map .int) (vs.eraseIdx j)
  | [], _, j, r, e => by simp at e
  | i :: is, _, j, r, e => by
    cases r with
    | cons x r =>
      rw [List.findIdx?_cons] at e
      by_cases q : i = k
      · subst q; simp at e; subst e; simpa using r
      · rw [show (i == k) = false from by simpa using q] at e
        simp only [Bool.false_eq_true, if_false] at e
        cases e9 : is.findIdx? (· == k) with
        | none => rw [e9] at e; cases e
        | some j' =>
          rw [e9] at e; simp at e; subst e
          rw [List.erase_cons_tail (by simpa using q)]
          simpa using VRels.cons x (erase_rel r e9)
theorem sim_remove : SimM prog w TS n A env "list.remove" plremove := fun c σ s a x as xs W h ra ras Q E q => by
  unfold plremove at q; split at q
  · obtain ⟨is, e, hk, q⟩ := q
    cases ra.ref_inv; obtain ⟨y, rfl, ry⟩ := ras.one_inv; obtain ⟨t, rfl⟩ := ry.int_inv
    obtain ⟨hz', it, n1, l1, r1⟩ := h.list_at e
    have := cap_le; have hsz := r1.sizeA
    simp only [List.length_map] at hsz
    have hi := ints_inv r1
    rename_i b k
    have hex : ∃ j, is.findIdx? (· == k) = some j := by
      cases q9 : is.findIdx? (· == k) with
      | some j => exact ⟨j, rfl⟩
      | none => exact absurd (List.findIdx?_eq_none_iff.mp q9 k hk) (by simp)
    obtain ⟨j, hj⟩ := hex
    have hj' := List.findIdx?_eq_some_iff_getElem.mp hj
    obtain ⟨hjl, hj1, hj2⟩ := hj'
    refine call_meets F.slot_list_remove ⟨_, l1, rfl⟩ F.entry_list_remove (F.args_list_remove_2 _ _) (MeetsSeq.list_remove _ it n1 _ (eqInt k) (fun y hy => ?_) j (by omega) ?_ (fun m hm hlt => ?_) (by simp only [List.length_map] at hz'; omega)) ⟨l1, lupd h e l1 _ ?_ ?_ .none q⟩
    · obtain ⟨i, u, rfl⟩ := mem_ints hi y (by simpa using hy)
      exact eqGives_int i k u t
    · obtain ⟨i, u, e1, e2⟩ := IntsAre.getA hi (j := j) (by omega)
      rw [e1]; rw [List.getElem?_eq_getElem hjl] at e2; cases e2; exact hj1
    · obtain ⟨i, u, e1, e2⟩ := IntsAre.getA hi hm
      rw [e1]; rw [List.getElem?_eq_getElem (by omega)] at e2; cases e2
      have := hj2 m hlt
      simpa [eqInt] using this
    · have := List.length_erase_le (a := k) (l := is)
      simp only [List.length_map] at hz' ⊢; omega
    · rw [Array.toList_eraseIdxIfInBounds]; exact erase_rel r1 hj
  · exact q.elim
end
end Mine
end
noncomputable section
open PySem PySem.W PyProof.Rows PySem.Calls PySem.SeqAt
set_option Elab.async false
set_option linter.unusedVariables false
namespace Mine

/-- more objects guarded -/
abbrev Cx.more (c : Cx) (O : List (Addr × Obj)) : Cx := { c with G := O ++ c.G }

/-- an address free of the frame's, the top's and the guarded -/
def Free (c : Cx) (env : Env) (a : Addr) : Prop := (a ≠ env.locals ∧ ∀ y ∈ env.cells, y.2 ≠ a) ∧ c.base.get? a = none ∧ ∀ p ∈ c.G, p.1 ≠ a
structure NextOK (prog : Program) (w : World) (c : Cx) (A : Around) (env : Env) (tgt : Expr) (it : Value) (St : Nat → List (Addr × Obj) → Prop) (addrs : List Addr) (items : List LV) (g : LS → Prop) (h0 : Heap) : Prop where
  sub : ∀ i O, St i O → ∀ p ∈ O, p.1 ∈ addrs
  off : ∀ a ∈ addrs, a ≠ env.locals ∧ ∀ y ∈ env.cells, y.2 ≠ a
  item : ∀ i O σ s lv (P : Value → Shared → Prop) (E : Value → Shared → Prop), items[i]? = some lv → g σ → Imm h0 s.heap → St i O → Rel prog w (c.more O) env σ s →
    (∀ v s' O', VRel s'.heap lv v → St (i + 1) O' → Rel prog w (c.more O') env σ s' → Imm s.heap s'.heap → P v s') →
    wpAny (model prog w) A (pyNext it) (fun r s₁ => ∃ v, r = some v ∧ wpAny (model prog w) A (letOwnedTupleGo tgt it v) (fun _ s' => P v s') E s₁) E s
  self : ∀ i O σ s (Q : Value → Shared → Prop) (E : Value → Shared → Prop), St i O → Rel prog w (c.more O) env σ s → Q it s → wpAny (model prog w) A (pyIter it) Q E s
  done : ∀ O σ s (P : Option Value → Shared → Prop) (E : Value → Shared → Prop), g σ → Imm h0 s.heap → St items.length O → Rel prog w (c.more O) env σ s → (∀ s', Rel prog w c env σ s' → Imm s.heap s'.heap → P none s') → wpAny (model prog w) A (pyNext it) P E s

/-- an iterator at hand, whatever frame goes on with it -/
def ItOK (prog : Program) (w : World) (c : Cx) (A : Around) (env : Env) (tgt : Expr) (it : Value) (St : Nat → List (Addr × Obj) → Prop) (addrs : List Addr) (items : List LV) (g : LS → Prop) (h0 : Heap) : Prop :=
  (∀ a ∈ addrs, Free c env a ∧ a < h0.objs.size) ∧ ∀ c' env', c'.base = c.base → (∀ a ∈ addrs, Free c' env' a) → NextOK prog w c' A env' tgt it St addrs items g h0
theorem ItOK.own {prog : Program} {w : World} {c : Cx} {A : Around} {env : Env} {tgt : Expr} {it : Value} {St : Nat → List (Addr × Obj) → Prop} {addrs : List Addr} {items : List LV} {g : LS → Prop} {h0 : Heap} (k : ItOK prog w c A env tgt it St addrs items g h0) : NextOK prog w c A env tgt it St addrs items g h0 := k.2 c env rfl fun a ha => (k.1 a ha).1

def pforL (g : LS → Prop) (bind : LV → PTx Unit) (body orelse : PTx LF) : List LV → PTx LF
  | [] => fun Q E σ => g σ ∧ orelse Q E σ
  | v :: vs => fun Q E σ => g σ ∧ bind v (fun _ σ' => body (fun f σ'' => match f with | .next => pforL g bind body orelse vs Q E σ'' | .cont => pforL g bind body orelse vs Q E σ'' | .brk => Q .next σ'' | .ret v => Q (.ret v) σ'') E σ') E σ
/-- what an iterable gives: its items, and what must stand while it is gone through -/
abbrev LIt := List LV × (LS → Prop)
abbrev pfor (m : PTx LIt) (bind : LV → PTx Unit) (body orelse : PTx LF) : PTx LF := fun Q E σ => m (fun r σ' => pforL r.2 bind body orelse r.1 Q E σ') E σ

section
variable {prog : Program} {w : World} {TS : TopS} {c : Cx} {A : Around} {env : Env} {σ : LS} {s : Shared} {n : Nat}

theorem Rel.less {O : List (Addr × Obj)} (h : Rel prog w (c.more O) env σ s) : Rel prog w c env σ s :=
  ⟨h.keep, fun p hp => h.guard p (List.mem_append_right _ hp), h.ns, h.cell, h.cin, h.obj, fun a o e => let ⟨a1, a2, a3, a4⟩ := h.dom a o e; ⟨a1, a2, fun p hp => a3 p (List.mem_append_right _ hp), a4⟩, h.gens, h.os, h.drawn⟩
theorem Off.less {O : List (Addr × Obj)} {a : Addr} (o : Off (c.more O) σ a) : Off c σ a := ⟨o.1, o.2.1, fun p hp => o.2.2 p (List.mem_append_right _ hp)⟩
theorem ExcOb.less {O : List (Addr × Obj)} {σ : LS} {h : Heap} {x : LX} {ea : Addr} {oe : Obj} {vs : Array Value} (o : ExcOb (c.more O) σ h x ea oe vs) : ExcOb c σ h x ea oe vs := ⟨o.at_, o.cls, o.name, o.data, o.off.less, o.size, o.ctx⟩
theorem TbOb.less {O : List (Addr × Obj)} {σ : LS} {h : Heap} {fl : Value} {T : Addr} {oT : Obj} {ts : Array Value} (o : TbOb (c.more O) σ h fl T oT ts) : TbOb c σ h fl T oT ts := ⟨o.at_, o.cls, o.data, o.fl, o.off.less⟩
theorem ExcAt.less {O : List (Addr × Obj)} {σ : LS} {h : Heap} {x : LX} {e : Value} (y : ExcAt (c.more O) env σ h x e) : ExcAt c env σ h x e := by
  obtain ⟨ea, oe, vs, e1, ob, h1 | ⟨T, oT, ts, h1, tb⟩⟩ := y
  · exact ⟨ea, oe, vs, e1, ob.less, .inl h1⟩
  · exact ⟨ea, oe, vs, e1, ob.less, .inr ⟨T, oT, ts, h1, tb.less⟩⟩
theorem EPost.less {O : List (Addr × Obj)} {h0 : Heap} {E : LX → LS → Prop} {v : Value} {s' : Shared} (p : EPost prog w (c.more O) env h0 E v s') : EPost prog w c env h0 E v s' := by
  obtain ⟨x, σ', a, b, d, e⟩ := p; exact ⟨x, σ', a.less, b.less, d, e⟩
theorem WF.more {O : List (Addr × Obj)} (W : WF TS n c A env) (h : ∀ p ∈ O, p.1 ≠ env.locals ∧ ∀ y ∈ env.cells, y.2 ≠ p.1) : WF TS n (c.more O) A env where
  sep := ⟨W.sep.above, fun p hp => (List.mem_append.mp hp).elim (fun q => (h p q).1) (W.sep.gL p), W.sep.cellL, W.sep.cellB, W.sep.cellU, fun p hp y hy hlt => (List.mem_append.mp hp).elim (fun q => Ne.symm ((h p q).2 y hy)) fun q => W.sep.gOwn p q y hy hlt, W.sep.kind, W.sep.glob, W.sep.bui⟩
  room := W.room
  units := W.units
  top := W.top
  frl := W.frl
  hand := fun q e0 h0 => let ⟨o, vs, a, b⟩ := W.hand q e0 h0; ⟨o, vs, List.mem_append_right _ a, b⟩
  fr := fun q => let ⟨outer, a, b⟩ := W.fr q; ⟨outer, a, fun e he => let ⟨k1, L, o, k2, k3, k4⟩ := b e he; ⟨k1, L, o, k2, List.mem_append_right _ k3, k4⟩⟩

/-- an object newly made, guarded -/
theorem Rel.guardNew (h : Rel prog w c env σ s) {h' : Heap} {tk : Nat} {o ob : Obj} (k : ∀ b o, s.heap.get? b = some o → h'.get? b = some o) (e : h'.get? s.heap.objs.size = some ob) (e1 : ob.cls = o.cls) (e2 : ob.data = o.data) (e3 : exactO o = true → ob = o) :
    Rel prog w (c.more [(s.heap.objs.size, o)]) env σ { s with heap := h', toks := tk } := by
  have q := h.keeps (tk := tk) k
  refine ⟨q.keep, fun p hp => ?_, q.ns, q.cell, q.cin, q.obj, fun a o e => ?_, q.gens, q.os, q.drawn⟩
  · rcases List.mem_append.mp hp with hp | hp
    · rw [List.mem_singleton.mp hp]; exact ⟨ob, e, e1, e2, e3⟩
    · exact q.guard p hp
  · obtain ⟨a1, a2, a3, a4⟩ := h.dom a o e
    refine ⟨a1, a2, fun p hp => ?_, a4⟩
    rcases List.mem_append.mp hp with hp | hp
    · rw [List.mem_singleton.mp hp]
      obtain ⟨ob', e', _⟩ := (h.obj a o e).notImm
      exact Nat.ne_of_gt (Heap.lt_size e')
    · exact a3 p hp
/-- a guarded object turned -/
theorem Rel.reguard {I : Addr} {o o' ob : Obj} (hI : I ≠ env.locals ∧ ∀ y ∈ env.cells, y.2 ≠ I) (hb : c.base.get? I = none) (hg : ∀ p ∈ c.G, p.1 ≠ I) (h : Rel prog w (c.more [(I, o)]) env σ s) {h' : Heap} {tk : Nat} (ni : immObj { o with slots := #[] } = false) (k : Heap.ExtBut I s.heap h') (e : h'.get? I = some ob) (e1 : ob.cls = o'.cls) (e2 : ob.data = o'.data) (e3 : exactO o' = true → ob = o') :
    Rel prog w (c.more [(I, o')]) env σ { s with heap := h', toks := tk } ∧ Imm s.heap h' := by
  obtain ⟨og, g, g1, g2, _⟩ := h.guard (I, o) (List.mem_append_left _ (.head _))
  have ni' : ∀ o, s.heap.get? I = some o → immObj o = false := fun o9 q => by
    rw [g] at q; cases q
    unfold immObj at ni ⊢; rw [g2]; simp only at ni ⊢; rw [g1]; exact ni
  have hσ : σ.heap I = none := by
    cases q : σ.heap I with
    | none => rfl
    | some o9 => exact absurd rfl ((h.dom I o9 q).2.2.1 (I, o) (List.mem_append_left _ (.head _)))
  have q := h.less.extBut (tk := tk) k ni' hb hI.1 hg hI.2 hσ
  refine ⟨⟨q.keep, fun p hp => ?_, q.ns, q.cell, q.cin, q.obj, fun a o9 e9 => ?_, q.gens, q.os, q.drawn⟩, Imm.of_extBut k ni'⟩
  · rcases List.mem_append.mp hp with hp | hp
    · rw [List.mem_singleton.mp hp]; exact ⟨ob, e, e1, e2, e3⟩
    · exact q.guard p hp
  · obtain ⟨a1, a2, a3, a4⟩ := h.dom a o9 e9
    refine ⟨a1, a2, fun p hp => ?_, a4⟩
    rcases List.mem_append.mp hp with hp | hp
    · rw [List.mem_singleton.mp hp]; exact a3 (I, o) (List.mem_append_left _ (.head _))
    · exact a3 p (List.mem_append_right _ hp)
theorem Rel.unguard {I : Addr} {o : Obj} (hI : I ≠ env.locals ∧ ∀ y ∈ env.cells, y.2 ≠ I) (hb : c.base.get? I = none) (hg : ∀ p ∈ c.G, p.1 ≠ I) (h : Rel prog w (c.more [(I, o)]) env σ s) {h' : Heap} {tk : Nat} (ni : immObj { o with slots := #[] } = false) (k : Heap.ExtBut I s.heap h') :
    Rel prog w c env σ { s with heap := h', toks := tk } ∧ Imm s.heap h' := by
  obtain ⟨og, g, g1, g2, _⟩ := h.guard (I, o) (List.mem_append_left _ (.head _))
  have ni' : ∀ o, s.heap.get? I = some o → immObj o = false := fun o9 q => by
    rw [g] at q; cases q
    unfold immObj at ni ⊢; rw [g2]; simp only at ni ⊢; rw [g1]; exact ni
  have hσ : σ.heap I = none := by
    cases q : σ.heap I with
    | none => rfl
    | some o9 => exact absurd rfl ((h.dom I o9 q).2.2.1 (I, o) (List.mem_append_left _ (.head _)))
  exact ⟨h.less.extBut (tk := tk) k ni' hb hI.1 hg hI.2 hσ, Imm.of_extBut k ni'⟩

/-- an iterable: evaluated, its iterator made -/
def SimIt (prog : Program) (w : World) (TS : TopS) (n : Nat) (A : Around) (env : Env) (tgt iter : Expr) (m : PTx LIt) : Prop :=
  ∀ c σ s, WF TS n c A env → Rel prog w c env σ s → ∀ Q E, m Q E σ →
    wpAny (model prog w) A (eval iter env) (fun x s₁ => wpAny (model prog w) A (pyIter x) (fun it s₂ => ∃ St addrs r σ' O, ItOK prog w c A env tgt it St addrs r.1 r.2 s₂.heap ∧ St 0 O ∧ Rel prog w (c.more O) env σ' s₂ ∧ Imm s.heap s₂.heap ∧ Q r σ') (EPost prog w c env s.heap E) s₁) (EPost prog w c env s.heap E) s

theorem for_step {R : Result → Shared → Prop} {tgt : Expr} {it : Value} {body orelse : List Stmt}
    (h : wpAny (model prog w) A (pyNext it) (fun r s₁ => match r with
      | none => wpAny (model prog w) A (execs orelse env) (fun f s₃ => R (.ok f) s₃) (notedBy (model prog w) A env fun e s' => R (.error e) s') s₁
      | some v => wpAny (model prog w) A (letOwnedTupleGo tgt it v) (fun _ s₂ => wpAny (model prog w) A (assign tgt env v) (fun _ s₃ => wpAny (model prog w) A (execs body env) (fun f s₄ => match f with
          | .next => codeAny (model prog w) A (.forLoop tgt it body orelse env) R s₄
          | .cont => codeAny (model prog w) A (.forLoop tgt it body orelse env) R s₄
          | .brk => R (.ok .next) s₄
          | .ret v => R (.ok (.ret v)) s₄) (notedBy (model prog w) A env fun e s' => R (.error e) s') s₃) (notedBy (model prog w) A env fun e s' => R (.error e) s') s₂) (notedBy (model prog w) A env fun e s' => R (.error e) s') s₁) (notedBy (model prog w) A env fun e s' => R (.error e) s') s) :
    codeAny (model prog w) A (.forLoop tgt it body orelse env) R s := by
  refine codeAny_of_tree ?_
  show wpAny _ A ((forTurn tgt it body orelse env).onRaise (fun x => do noteFrame x env; theTreesLotGoes x)) _ _ s
  refine wpAny_noted ?_
  simp only [forTurn]
  refine wpAny_bind (wpAny_standAt (wpAny_bind (wpAny_onRaise (wpAny_mono h (fun r s₁ h₁ => ?_) fun _ _ x => wpAny_standAt x))))
  cases r with
  | none => exact wpAny_pure ⟨rfl, codeAny_block h₁⟩
  | some v =>
    refine wpAny_bind (wpAny_mono h₁ (fun _ s₂ h₂ => wpAny_bind (wpAny_mono h₂ (fun _ s₃ h₃ => wpAny_bind (wpAny_mono h₃ (fun f s₄ h₄ => ?_) fun _ _ x => x)) fun _ _ x => x)) fun _ _ x => x)
    cases f with
    | next => exact wpAny_pure ⟨rfl, h₄⟩
    | cont => exact wpAny_pure ⟨rfl, h₄⟩
    | brk => exact wpAny_pure h₄
    | ret v => exact wpAny_pure h₄

theorem sim_For {tgt iter : Expr} {body orelse : List Stmt} {pos : Pos} {m : PTx LIt} {bind : LV → PTx Unit} {mb mo : PTx LF} (hf : env.frame = some env.locals) (hi : SimIt prog w TS n A env tgt iter m) (ht : Sim1 prog w TS n A env (assign tgt env) REq bind) (hb : Sim prog w TS n A env (execs body env) FlRel mb) (ho : Sim prog w TS n A env (execs orelse env) FlRel mo)
    (hs : ∀ x, foldedSetIterable iter env x = pure x) : Sim prog w TS n A env (exec (.For tgt iter body orelse pos) env) FlRel (pfor m bind mb mo) := fun c σ s W h Q E q => by
  have pass := passes (prog := prog) (w := w) (A := A) (h0 := s.heap) (E := E) W hf
  refine wpAny_For (wpAny_mono (hi c σ s W h _ E q) (fun x s₁ p => wpAny_mono p (fun it s₂ p => ?_) fun _ _ x => x) fun _ _ x => x) hs
  obtain ⟨St, addrs, ⟨items, g⟩, σ', O₀, iok, st₀, h₂, i₂, q₂⟩ := p
  dsimp only at iok q₂
  have ok := iok.own
  obtain ⟨R, hok, herr, fin⟩ : ∃ R : Result → Shared → Prop, (∀ f s', Post prog w c env FlRel s.heap Q f s' → R (.ok f) s') ∧ (∀ e s', EPost prog w c env s.heap E e s' → notedBy (model prog w) A env (fun e s' => R (.error e) s') e s') ∧
      (∀ s', codeAny (model prog w) A (.forLoop tgt it body orelse env) R s' → codeAny (model prog w) A (.forLoop tgt it body orelse env) (fun r s' => match r with | .ok f => Post prog w c env FlRel s.heap Q f s' | .error e => cameBackBy (model prog w) A env (EPost prog w c env s.heap E) e s') s') :=
    ⟨fun r s' => match r with | .ok f => Post prog w c env FlRel s.heap Q f s' | .error e => cameBackBy (model prog w) A env (EPost prog w c env s.heap E) e s', fun _ _ p => p, fun e s' p => pass e s' p, fun _ p => p⟩
  refine fin _ ?_
  have key : ∀ (k : Nat) (i : Nat), items.length - i = k → i ≤ items.length → ∀ O σ₁ s₁, St i O → Rel prog w (c.more O) env σ₁ s₁ → Imm s₂.heap s₁.heap → pforL g bind mb mo (items.drop i) Q E σ₁ →
      codeAny (model prog w) A (.forLoop tgt it body orelse env) R s₁ := by
    intro k
    induction k with
    | zero =>
      intro i hk hle O σ₁ s₁ st₁ h₁ i₁ q₁
      obtain rfl : i = items.length := by omega
      rw [List.drop_length] at q₁
      obtain ⟨g₁, q₁⟩ := q₁
      exact for_step (ok.done O σ₁ s₁ _ _ g₁ i₁ st₁ h₁ fun s₃ h₃ i₃ => wpAny_mono ((ho c σ₁ s₃ W h₃).fin ((i₂.trans i₁).trans i₃) q₁) (fun _ _ p => hok _ _ p) herr)
    | succ k ih =>
      intro i hk hle O σ₁ s₁ st₁ h₁ i₁ q₁
      have hlt : i < items.length := by omega
      rw [List.drop_eq_getElem_cons hlt] at q₁
      obtain ⟨g₁, q₁⟩ := q₁
      have W' : ∀ O', St (i + 1) O' → WF TS n (c.more O') A env := fun O' st' => W.more fun p hp => ok.off _ (ok.sub (i + 1) O' st' p hp)
      refine for_step (wpAny_mono (ok.item i O σ₁ s₁ items[i] (fun v s₂ => wpAny (model prog w) A (assign tgt env v) (fun _ s₃ => wpAny (model prog w) A (execs body env) (fun f s₄ => match f with
          | .next => codeAny (model prog w) A (.forLoop tgt it body orelse env) R s₄
          | .cont => codeAny (model prog w) A (.forLoop tgt it body orelse env) R s₄
          | .brk => R (.ok .next) s₄
          | .ret v => R (.ok (.ret v)) s₄) (notedBy (model prog w) A env fun e s' => R (.error e) s') s₃) (notedBy (model prog w) A env fun e s' => R (.error e) s') s₂) _ (by simp [hlt]) g₁ i₁ st₁ h₁ fun v s₉ O' rv st₉ h₉ i₉ => ?_) (fun r s₉ p => ?_) fun _ _ x => x)
      · refine wpAny_mono ((ht _ σ₁ s₉ _ _ (W' O' st₉) h₉ rv).go ((i₂.trans i₁).trans i₉) q₁ fun _ _ σ₃ s₃ _ h₃ i₃ j₃ q₃ => wpAny_mono ((hb _ σ₃ s₃ (W' O' st₉) h₃).go i₃ q₃ (P := fun f s₄ => match f with
          | .next => codeAny (model prog w) A (.forLoop tgt it body orelse env) R s₄
          | .cont => codeAny (model prog w) A (.forLoop tgt it body orelse env) R s₄
          | .brk => R (.ok .next) s₄
          | .ret v => R (.ok (.ret v)) s₄) fun f v σ₄ s₄ rf h₄ i₄ j₄ q₄ => ?_) (fun _ _ x => x) fun _ _ x => herr _ _ x.less) (fun _ _ x => x) fun _ _ x => herr _ _ x.less
        cases rf with
        | next => exact ih (i + 1) (by omega) hlt O' σ₄ s₄ st₉ h₄ (((i₁.trans i₉).trans j₃).trans j₄) q₄
        | brk => exact hok _ _ ⟨_, σ₄, .next, h₄.less, i₄, q₄⟩
        | cont => exact ih (i + 1) (by omega) hlt O' σ₄ s₄ st₉ h₄ (((i₁.trans i₉).trans j₃).trans j₄) q₄
        | ret r => exact hok _ _ ⟨_, σ₄, .ret r, h₄.less, i₄, q₄⟩
      · obtain ⟨v, rfl, p⟩ := p
        exact p
  exact key _ 0 rfl (Nat.zero_le _) O₀ σ' s₂ st₀ h₂ (Imm.refl _) (by simpa using q₂)
end
end Mine
end
noncomputable section
open PySem PySem.W PyProof.Rows PySem.Calls PySem.SeqAt
set_option Elab.async false
set_option linter.unusedVariables false
namespace Mine

def pitems : LV → PTx LIt
  | .ref a => fun Q _ σ => ∃ xs, σ.heap a = some (.list xs) ∧ Q (xs, fun σ => σ.heap a = some (.list xs)) σ
  | _ => pfail
def ptitems : LV → PTx LIt
  | .tup vs => fun Q _ σ => vs.length ≤ cap ∧ Q (vs, fun _ => True) σ
  | _ => pfail
def rngList (a c : Int) (m : Nat) : List LV := (List.range m).map fun (i : Nat) => LV.int (a + i * c)
def pritems : LV → PTx LIt
  | .rng a b c => fun Q _ σ => (-(2 ^ 20) ≤ a ∧ a ≤ 2 ^ 20 ∧ -(2 ^ 20) ≤ b ∧ b ≤ 2 ^ 20 ∧ (c = 1 ∨ c = -1)) ∧ Q (rngList a c (Builtin.Range.rangeSize a b c).toNat, fun _ => True) σ
  | _ => pfail
def pkeys : LV → PTx LIt
  | .ref a => fun Q _ σ => ∃ es ep, σ.heap a = some (.dict es ep) ∧ Q (es.map fun kv => LV.int kv.1, fun σ => σ.heap a = some (.dict es ep)) σ
  | _ => pfail
def pvals : LV → PTx LIt
  | .ref a => fun Q _ σ => ∃ es ep, σ.heap a = some (.dict es ep) ∧ Q (es.map fun kv => kv.2, fun σ => σ.heap a = some (.dict es ep)) σ
  | _ => pfail
def pents : LV → PTx LIt
  | .ref a => fun Q _ σ => ∃ es ep, σ.heap a = some (.dict es ep) ∧ Q (es.map fun kv => LV.tup [.int kv.1, kv.2], fun σ => σ.heap a = some (.dict es ep)) σ
  | _ => pfail
def penum : LV → PTx LIt
  | .ref a => fun Q _ σ => ∃ xs, σ.heap a = some (.list xs) ∧ Q (xs.zipIdx.map fun vi => LV.tup [.int vi.2, vi.1], fun σ => σ.heap a = some (.list xs)) σ
  | _ => pfail
def prevr : LV → PTx LIt
  | .rng a b c => fun Q _ σ => (a = 0 ∧ c = 1 ∧ 0 ≤ b ∧ b ≤ 2 ^ 20) ∧ Q (((List.range b.toNat).map fun (i : Nat) => LV.int (i : Int)).reverse, fun _ => True) σ
  | _ => pfail

abbrev lIterObj (a : Addr) (i : Nat) : Obj := { cls := .type "list_iterator", data := .fields #[.ref a, .int i 0] }

section
variable {prog : Program} {w : World} {TS : TopS} {c : Cx} {A : Around} {env : Env} {σ : LS} {s : Shared} {n : Nat}

theorem Rel.fresh_off (h : Rel prog w c env σ s) : s.heap.objs.size ≠ env.locals ∧ ∀ y ∈ env.cells, y.2 ≠ s.heap.objs.size := ⟨h.fresh_loc, h.fresh_cell⟩

/-- one iterator object at I, its turns by a rule -/
theorem itOK_one {tgt : Expr} {I : Addr} {O : Nat → Obj} {items : List LV} {g : LS → Prop} {h0 : Heap} (hf : Free c env I) (hlt : I < h0.objs.size) (ni : ∀ i, immObj { O i with slots := #[] } = false)
    (hitem : ∀ (c' : Cx) env' i σ s lv (Q : Option Value → Shared → Prop) (E : Value → Shared → Prop), items[i]? = some lv → g σ → Imm h0 s.heap → Rel prog w (c'.more [(I, O i)]) env' σ s →
      (∀ v h' tk ob, Heap.ExtBut I s.heap h' → h'.get? I = some ob → ob.cls = (O (i + 1)).cls → ob.data = (O (i + 1)).data → (exactO (O (i + 1)) = true → ob = O (i + 1)) → (Imm s.heap h' → VRel h' lv v) → Q (some v) { s with heap := h', toks := tk }) → wpAny (model prog w) A (pyNext (.ref I)) Q E s)
    (hlet : ∀ i s v (Q : Unit → Shared → Prop) (E : Value → Shared → Prop) ob, s.heap.get? I = some ob → ob.cls = (O i).cls → ob.data = (O i).data → (exactO (O i) = true → ob = O i) → Q () s → wpAny (model prog w) A (letOwnedTupleGo tgt (.ref I) v) Q E s)
    (hself : ∀ i s (Q : Value → Shared → Prop) (E : Value → Shared → Prop) ob, s.heap.get? I = some ob → ob.cls = (O i).cls → ob.data = (O i).data → (exactO (O i) = true → ob = O i) → Q (.ref I) s → wpAny (model prog w) A (pyIter (.ref I)) Q E s)
    (hdone : ∀ (c' : Cx) env' σ s (Q : Option Value → Shared → Prop) (E : Value → Shared → Prop), g σ → Imm h0 s.heap → Rel prog w (c'.more [(I, O items.length)]) env' σ s → (∀ h' tk, Heap.ExtBut I s.heap h' → Q none { s with heap := h', toks := tk }) → wpAny (model prog w) A (pyNext (.ref I)) Q E s) :
    ItOK prog w c A env tgt (.ref I) (fun i L => L = [(I, O i)]) [I] items g h0 := by
  refine ⟨fun a ha => by rw [List.mem_singleton.mp ha]; exact ⟨hf, hlt⟩, fun c' env' hcb hfr => ?_⟩
  have hI := (hfr I (.head _))
  exact {
  sub := fun i L hL p hp => by subst hL; rw [List.mem_singleton.mp hp]; exact .head _
  off := fun a ha => by rw [List.mem_singleton.mp ha]; exact hI.1
  item := fun i L σ s lv P E hx gg im0 hL h k => by
    subst hL
    refine hitem c' env' i σ s lv _ E hx gg im0 h fun v h' tk ob ke e e1 e2 e3 rv => ?_
    obtain ⟨r, im⟩ := Rel.reguard (tk := tk) hI.1 hI.2.1 hI.2.2 h (ni i) ke e e1 e2 e3
    exact ⟨v, rfl, hlet (i + 1) _ v _ E ob e e1 e2 e3 (k v _ _ (rv im) rfl r im)⟩
  self := fun i L σ s Q E hL h q => by
    subst hL
    obtain ⟨og, g0, g1, g2, g3⟩ := h.guard (I, O i) (List.mem_append_left _ (.head _))
    exact hself i s Q E og g0 g1 g2 g3 q
  done := fun L σ s P E gg im0 hL h k => hdone c' env' σ s P E gg im0 (hL ▸ h) fun h' tk ke => by
    subst hL
    obtain ⟨r, im⟩ := Rel.unguard (tk := tk) hI.1 hI.2.1 hI.2.2 h (ni _) ke
    exact k _ r im }

theorem Rel.it_at {I : Addr} {o : Obj} (h : Rel prog w (c.more [(I, o)]) env σ s) : ∃ ob, s.heap.get? I = some ob ∧ ob.cls = o.cls ∧ ob.data = o.data ∧ (exactO o = true → ob = o) := h.guard (I, o) (List.mem_append_left _ (.head _))

/-- a list's iterator lets nothing go -/
theorem let_list {tgt : Expr} {I : Addr} {v : Value} {ob : Obj} {vs : Array Value} {nm : String} {Q : Unit → Shared → Prop} {E : Value → Shared → Prop} (e : s.heap.get? I = some ob) (e1 : ob.cls = .type nm) (e2 : ob.data = .fields vs)
    (hn : ["enumerate", "zip", "dict_itemiterator", "dict_reverseitemiterator", "odict_iterator", "itertools.zip_longest", "itertools.pairwise"].contains nm = false) (q : Q () s) : wpAny (model prog w) A (letOwnedTupleGo tgt (.ref I) v) Q E s := by
  have aux : ∀ a : Addr, wpAny (model prog w) A (do
      let o ← load I
      match o.cls, o.data with
      | .type n, .fields vs =>
        if ["enumerate", "zip", "dict_itemiterator", "dict_reverseitemiterator", "odict_iterator", "itertools.zip_longest", "itertools.pairwise"].contains n && vs[0]? == some (rawInt a) then
          rule "for.unpacks-the-owned-tuple"
          updateField I 0 .none
      | _, _ => pure ()) Q E s := fun a => by
    refine wpAny_bind (wpAny_load e ?_)
    rw [e1, e2]
    simp only [hn, Bool.false_and, Bool.false_eq_true, if_false]
    exact wpAny_pure q
  cases tgt <;> first | exact wpAny_pure q | (cases v <;> first | exact aux _ | exact wpAny_pure q)

theorem it_list {tgt iter : Expr} {m : PTx LV} (hh : A.handled = none) (hm : Sim prog w TS n A env (eval iter env) VRel m) : SimIt prog w TS n A env tgt iter (pbind m pitems) := fun c σ s W h Q E q => by
  refine (hm c σ s W h).go (Imm.refl _) q fun v x σ₁ s₁ rv h₁ i₁ j₁ q₁ => ?_
  unfold pitems at q₁; split at q₁
  · obtain ⟨xs, e, q₁⟩ := q₁
    cases rv.ref_inv
    rename_i a
    obtain ⟨hz, it, n1, l1, r1⟩ := h₁.list_at e
    refine wpAny_pyIter_list l1.isList ?_
    have k : ∀ b o, s₁.heap.get? b = some o → (s₁.heap.push (lIterObj a 0)).get? b = some o := fun b o e => Heap.get?_push_of_some _ e
    refine ⟨_, _, _, σ₁, _, itOK_one (I := s₁.heap.objs.size) (O := fun i => lIterObj a i) ⟨h₁.fresh_off, h₁.fresh_base, h₁.fresh_G⟩ (Heap.lt_size (Heap.get?_push_size _ rfl)) (fun _ => rfl) ?_ ?_ ?_ ?_, rfl, h₁.guardNew (tk := s₁.toks) k (Heap.get?_push_size _ rfl) rfl rfl (fun q => nomatch q), i₁.trans (Imm.of_keeps k), q₁⟩
    · intro c' env' i σ₂ s₂ lv Q' E' hx gg im₂ h₂ kk
      obtain ⟨hz, it, n1, l1, r1⟩ := h₂.list_at gg
      obtain ⟨ob, o1, o2, o3, _⟩ := h₂.it_at
      obtain ⟨u, h1, h2⟩ := r1.getA hx
      exact wpAny_pyNext_list_item ⟨ob, o1, o2, o3⟩ l1.isList h1 fun h' hit hs => by
        obtain ⟨ob', p1, p2, p3⟩ := hit
        exact kk u h' s₂.toks ob' hs.extBut p1 p2 p3 (fun q => nomatch q) fun im => h2.imm im
    · intro i s₂ v Q' E' ob o1 o2 o3 _ q'
      exact let_list o1 o2 o3 (by decide) q'
    · intro i s₂ Q' E' ob o1 o2 o3 o4 q'
      exact wpAny_pyIter_listiter (i := i) ⟨ob, o1, o2, o3⟩ q'
    · intro c' env' σ₂ s₂ Q' E' gg im₂ h₂ kk
      obtain ⟨hz, it, n1, l1, r1⟩ := h₂.list_at gg
      obtain ⟨ob, o1, o2, o3, _⟩ := h₂.it_at
      exact wpAny_pyNext_list_end hh ⟨ob, o1, o2, o3⟩ l1.isList (by rw [← r1.sizeA]; simp) fun h' hs => kk h' s₂.toks hs
  · exact q₁.elim
theorem it_tuple {tgt iter : Expr} {m : PTx LV} (hh : A.handled = none) (hm : Sim prog w TS n A env (eval iter env) VRel m) : SimIt prog w TS n A env tgt iter (pbind m ptitems) := fun c σ s W h Q E q => by
  refine (hm c σ s W h).go (Imm.refl _) q fun v x σ₁ s₁ rv h₁ i₁ j₁ q₁ => ?_
  unfold ptitems at q₁; split at q₁
  · obtain ⟨hz, q₁⟩ := q₁
    obtain ⟨t, items, n2, rfl, e2, r2⟩ := rv.tup_inv
    refine wpAny_pyIter_tuple ⟨_, e2, rfl, _, rfl⟩ ?_
    have k : ∀ b o, s₁.heap.get? b = some o → (s₁.heap.push { cls := .type "tuple_iterator", data := .fields #[.ref t, .int 0 0] }).get? b = some o := fun b o e => Heap.get?_push_of_some _ e
    have ik := Imm.of_keeps k
    refine ⟨_, _, _, σ₁, _, itOK_one (I := s₁.heap.objs.size) (O := fun i => { cls := .type "tuple_iterator", data := .fields #[.ref t, .int i 0] }) ⟨h₁.fresh_off, h₁.fresh_base, h₁.fresh_G⟩ (Heap.lt_size (Heap.get?_push_size _ rfl)) (fun _ => rfl) ?_ ?_ ?_ ?_, rfl, h₁.guardNew (tk := s₁.toks) k (Heap.get?_push_size _ rfl) rfl rfl (fun q => nomatch q), i₁.trans ik, q₁⟩
    · intro c' env' i σ₂ s₂ lv Q' E' hx gg im₂ h₂ kk
      have e3 := im₂ _ _ (k _ _ e2) rfl
      have r3 := (r2.imm ik).imm im₂
      obtain ⟨ob, o1, o2, o3, _⟩ := h₂.it_at
      obtain ⟨u, h1, h2⟩ := r3.get hx
      exact wpAny_pyNext_tuple_item ⟨ob, o1, o2, o3⟩ ⟨_, e3, rfl, _, rfl⟩ (by simpa using h1) fun h' hit hs => by
        obtain ⟨ob', p1, p2, p3⟩ := hit
        exact kk u h' s₂.toks ob' hs.extBut p1 p2 p3 (fun q => nomatch q) fun im => h2.imm im
    · intro i s₂ v Q' E' ob o1 o2 o3 _ q'
      exact let_list o1 o2 o3 (by decide) q'
    · intro i s₂ Q' E' ob o1 o2 o3 o4 q'
      exact wpAny_pyIter_tupleiter (i := i) ⟨ob, o1, o2, o3⟩ q'
    · intro c' env' σ₂ s₂ Q' E' gg im₂ h₂ kk
      have e3 := im₂ _ _ (k _ _ e2) rfl
      obtain ⟨ob, o1, o2, o3, _⟩ := h₂.it_at
      exact wpAny_pyNext_tuple_end hh ⟨ob, o1, o2, o3⟩ ⟨_, e3, rfl, _, rfl⟩ (by have := r2.length; simp; omega) fun h' hs => kk h' s₂.toks hs
  · exact q₁.elim
theorem rngSize_le {a b c : Int} (h : -(2 ^ 20) ≤ a ∧ a ≤ 2 ^ 20 ∧ -(2 ^ 20) ≤ b ∧ b ≤ 2 ^ 20 ∧ (c = 1 ∨ c = -1)) : 0 ≤ Builtin.Range.rangeSize a b c ∧ Builtin.Range.rangeSize a b c ≤ 2 ^ 21 ∧ Builtin.Range.small a b c = true := by
  obtain ⟨h1, h2, h3, h4, rfl | rfl⟩ := h
  · refine ⟨?_, ?_, small_one (by omega) (by omega) (by omega) (by omega)⟩ <;>
    · unfold Builtin.Range.rangeSize
      simp only [show ((1 : Int) > 0) = True from by simp, if_true]
      split <;> omega
  · have e : Builtin.Range.rangeSize a b (-1) = if a > b then a - b else 0 := by
      unfold Builtin.Range.rangeSize
      simp only [show ((-1 : Int) > 0) = False from by simp, if_false, Int.neg_neg, Int.ediv_one]
      split <;> omega
    rw [e]
    refine ⟨by split <;> omega, by split <;> omega, ?_⟩
    unfold Builtin.Range.small
    rw [e]
    simp only [Builtin.Range.rangeFitsLong, Bool.and_eq_true, Bool.or_eq_true, decide_eq_true_eq, beq_iff_eq, show ((-1 : Int) > 0) = False from by simp, if_false]
    split <;> omega
theorem it_range {tgt iter : Expr} {m : PTx LV} (hh : A.handled = none) (hm : Sim prog w TS n A env (eval iter env) VRel m) : SimIt prog w TS n A env tgt iter (pbind m pritems) := fun c σ s W h Q E q => by
  refine (hm c σ s W h).go (Imm.refl _) q fun v x σ₁ s₁ rv h₁ i₁ j₁ q₁ => ?_
  unfold pritems at q₁; split at q₁
  · rename_i a b d
    obtain ⟨hc, q₁⟩ := q₁
    obtain ⟨z1, z2, z3⟩ := rngSize_le hc
    cases rv with
    | rng er =>
      refine wpAny_pyIter_range er z3 ?_
      obtain ⟨N, hN⟩ : ∃ N : Nat, Builtin.Range.rangeSize a b d = (N : Int) := ⟨(Builtin.Range.rangeSize a b d).toNat, by omega⟩
      rw [hN] at q₁ ⊢
      rw [Int.toNat_natCast] at q₁
      have k : ∀ b o, s₁.heap.get? b = some o → (s₁.heap.push { cls := .type "range_iterator", data := .fields #[rawInt a, rawInt N, rawInt d] }).get? b = some o := fun b o e => Heap.get?_push_of_some _ e
      refine ⟨_, _, _, σ₁, _, itOK_one (I := s₁.heap.objs.size) (O := fun i => { cls := .type "range_iterator", data := .fields #[rawInt (a + i * d), rawInt ((N : Int) - i), rawInt d] }) ⟨h₁.fresh_off, h₁.fresh_base, h₁.fresh_G⟩ (Heap.lt_size (Heap.get?_push_size _ rfl)) (fun _ => rfl) ?_ ?_ ?_ ?_, rfl, h₁.guardNew (tk := s₁.toks) k (Heap.get?_push_size _ rfl) rfl (by simp) (fun _ => by simp), i₁.trans (Imm.of_keeps k), q₁⟩
      · intro c' env' i σ₂ s₂ lv Q' E' hx gg im₂ h₂ kk
        obtain ⟨ob, o1, o2, o3, o4⟩ := h₂.it_at
        cases o4 rfl
        have hx' : i < N ∧ lv = .int (a + i * d) := by
          unfold rngList at hx
          rw [List.getElem?_map] at hx
          cases h3 : (List.range N)[i]? with
          | none => rw [h3] at hx; cases hx
          | some j =>
            obtain ⟨hlt, hv⟩ := List.getElem?_eq_some_iff.mp h3
            rw [h3] at hx
            simp at hlt hv
            subst hv
            exact ⟨hlt, by simpa using hx.symm⟩
        obtain ⟨hlt, rfl⟩ := hx'
        refine wpAny_pyNext_range_item o1 (by omega) fun h' hit hs => ?_
        have e1 : a + (i : Int) * d + d = a + ((i + 1 : Nat) : Int) * d := by rw [Int.natCast_add, Int.add_mul]; simp; omega
        have e2 : (N : Int) - (i : Int) - 1 = (N : Int) - ((i + 1 : Nat) : Int) := by omega
        rw [e1, e2] at hit
        exact kk _ h' _ _ hs.extBut hit rfl rfl (fun _ => rfl) fun im => .int _ _
      · intro i s₂ v Q' E' ob o1 o2 o3 _ q'
        exact let_list o1 o2 o3 (by decide) q'
      · intro i s₂ Q' E' ob o1 o2 o3 o4 q'
        cases o4 rfl; exact wpAny_pyIter_rangeiter o1 q'
      · intro c' env' σ₂ s₂ Q' E' gg im₂ h₂ kk
        obtain ⟨ob, o1, o2, o3, o4⟩ := h₂.it_at
        cases o4 rfl
        exact wpAny_pyNext_range_end hh o1 (by simp [rngList]) fun h' hs => kk h' s₂.toks hs
  · exact q₁.elim

theorem ERel.get {h : Heap} {es : List (Int × LV)} {kvs : List (Int × Value)} (r : ERel h es kvs) {i : Nat} {kv : Int × LV} (e : es[i]? = some kv) : ∃ v, kvs[i]? = some (kv.1, v) ∧ VRel h kv.2 v := by
  induction r generalizing i with
  | nil => cases e
  | @cons _ _ v _ _ x _ ih =>
    cases i with
    | zero => cases e; exact ⟨v, rfl, x⟩
    | succ i => exact ih e
theorem is_int {k : Int} {key : Value} (h : (intKind prog w).is k key = true) : ∃ t, key = .int k t := Value.isInt_shape h
theorem it_keys {tgt iter : Expr} {m : PTx LV} (hh : A.handled = none) (hm : Sim prog w TS n A env (eval iter env) VRel m) : SimIt prog w TS n A env tgt iter (pbind m pkeys) := fun c σ s W h Q E q => by
  refine (hm c σ s W h).go (Imm.refl _) q fun v x σ₁ s₁ rv h₁ i₁ j₁ q₁ => ?_
  unfold pkeys at q₁; split at q₁
  · obtain ⟨es, ep, e, q₁⟩ := q₁
    cases rv.ref_inv
    rename_i a
    obtain ⟨hz, kvs, d1, r1⟩ := h₁.dict_ep e
    have hl := r1.length
    refine wpAny_pyIter_dict (h₁.not_sysm W e) d1 ?_
    rw [← hl]
    have k : ∀ b o, s₁.heap.get? b = some o → (s₁.heap.push { cls := .type "dict_keyiterator", data := .fields #[.ref a, .int 0 0, .int es.length 0, .int ep 0] }).get? b = some o := fun b o e => Heap.get?_push_of_some _ e
    refine ⟨_, _, _, σ₁, _, itOK_one (I := s₁.heap.objs.size) (O := fun i => { cls := .type "dict_keyiterator", data := .fields #[.ref a, .int i 0, .int es.length 0, .int ep 0] }) ⟨h₁.fresh_off, h₁.fresh_base, h₁.fresh_G⟩ (Heap.lt_size (Heap.get?_push_size _ rfl)) (fun _ => rfl) ?_ ?_ ?_ ?_, rfl, h₁.guardNew (tk := s₁.toks) k (Heap.get?_push_size _ rfl) rfl rfl (fun q => nomatch q), i₁.trans (Imm.of_keeps k), q₁⟩
    · intro c' env' i σ₂ s₂ lv Q' E' hx gg im₂ h₂ kk
      obtain ⟨hz, kvs, d1, r1⟩ := h₂.dict_ep gg
      obtain ⟨ob, o1, o2, o3, _⟩ := h₂.it_at
      rw [List.getElem?_map] at hx
      cases h3 : es[i]? with
      | none => rw [h3] at hx; cases hx
      | some kv =>
        rw [h3] at hx; cases hx
        obtain ⟨u, h1, h2⟩ := r1.get h3
        exact wpAny_pyNext_dict_item ⟨ob, o1, o2, by rw [← r1.length]; exact o3⟩ d1 h1 fun key h' hk hit hs => by
          obtain ⟨ob', p1, p2, p3⟩ := hit
          obtain ⟨t, rfl⟩ := is_int hk
          exact kk _ h' s₂.toks ob' hs.extBut p1 p2 (by rw [r1.length]; exact p3) (fun q => nomatch q) fun im => .int _ _
    · intro i s₂ v Q' E' ob o1 o2 o3 _ q'
      exact let_list o1 o2 o3 (by decide) q'
    · intro i s₂ Q' E' ob o1 o2 o3 o4 q'
      exact wpAny_pyIter_keyiter (i := i) ⟨ob, o1, o2, o3⟩ q'
    · intro c' env' σ₂ s₂ Q' E' gg im₂ h₂ kk
      obtain ⟨hz, kvs, d1, r1⟩ := h₂.dict_ep gg
      obtain ⟨ob, o1, o2, o3, _⟩ := h₂.it_at
      refine wpAny_pyNext_dict_end hh ⟨ob, o1, o2, by rw [← r1.length]; exact o3⟩ d1 (by have := r1.length; simp; omega) fun h' hs => kk h' s₂.toks hs
  · exact q₁.elim
end
end Mine
end
noncomputable section
open PySem PySem.W PyProof.Rows PySem.Calls PySem.SeqAt
set_option Elab.async false
set_option linter.unusedVariables false
namespace Mine
section
variable {prog : Program} {w : World} {TS : TopS} {c : Cx} {A : Around} {env : Env} {σ : LS} {s : Shared} {n : Nat}

/-- a call of a method of a built-in type without arguments, up to the call -/
theorem meth0_go {o : Expr} {name : String} {T id : String} {apos pos : Pos} {mo : PTx LV} {ck : LV → PTx Unit} {K : LV → LS → Prop} {E : LX → LS → Prop} {P : Value → Shared → Prop} (pa : PlainAttrs T) (slot : Slot T (Str.ofString name) id) (hty : typeOf (.builtin id) = pure (.type "method_descriptor"))
    (hbase : attributeBase o (Str.ofString name) env (eval o env) = eval o env) (hline : (apos.endLine == pos.line) = true)
    (ho : Sim prog w TS n A env (eval o env) VRel mo) (hck : IsOf prog w T ck) (W : WF TS n c A env) (h : Rel prog w c env σ s) (q : (pbind mo fun a => pbind (ck a) fun _ => fun Q E σ => Q a σ) K E σ)
    (g : ∀ a x σ₁ s₁, VRel s₁.heap a x → Rel prog w c env σ₁ s₁ → Imm s.heap s₁.heap → K a σ₁ → wpAny (model prog w) A (call (.builtin id) [x]) P (EPost prog w c env s.heap E) s₁) :
    wpAny (model prog w) A (eval (.Call (.Attribute o (Str.ofString name) apos) [] [] pos) env) P (EPost prog w c env s.heap E) s := by
  refine wpAny_Call_method hbase rfl hline pa slot hty ((ho c σ s W h).go (Imm.refl _) q fun a x σ₁ s₁ ra h₁ i₁ j₁ q₁ => ?_)
  obtain ⟨t1, t2, q₂⟩ := hck c env σ₁ s₁ a x _ E h₁ ra q₁
  exact ⟨t1, t2, callWith_machine rfl rfl (spliced_nil (g a x σ₁ s₁ ra h₁ i₁ q₂))⟩

theorem it_vals {tgt o : Expr} {apos pos : Pos} {mo : PTx LV} (hh : A.handled = none) (hbase : attributeBase o (Str.ofString "values") env (eval o env) = eval o env) (hline : (apos.endLine == pos.line) = true) (ho : Sim prog w TS n A env (eval o env) VRel mo) :
    SimIt prog w TS n A env tgt (.Call (.Attribute o (Str.ofString "values") apos) [] [] pos) (pbind mo fun a => pbind (pisdict a) fun _ => pvals a) := fun c σ s W h Q E q => by
  refine meth0_go F.plainAttrs_dict F.slot_dict_values F.type_dict_values hbase hline ho isOf_dict W h (K := fun a σ => pvals a Q E σ) q fun v x σ₁ s₁ rv h₁ i₁ q₁ => ?_
  unfold pvals at q₁; split at q₁
  · obtain ⟨es, ep, e, q₁⟩ := q₁
    cases rv.ref_inv
    rename_i a
    obtain ⟨hz, kvs, d1, r1⟩ := h₁.dict_ep e
    have hl := r1.length
    refine call_meetsIn F.slot_dict_values d1.dictOf.typeIs F.entry_dict_values (F.args_dict_values_1 _) (meets_dict_values (intKind prog w) a (h₁.not_sysm W e)) ⟨⟨kvs, d1.dictOf⟩, ?_⟩
    have k0 : ∀ b o, s₁.heap.get? b = some o → (s₁.heap.push { cls := .type "dict_values", data := .fields #[.ref a] }).get? b = some o := fun b o e => Heap.get?_push_of_some _ e
    have h₂ := h₁.keeps (tk := s₁.toks) k0
    refine wpAny_pyIter_values ⟨_, Heap.get?_push_size _ rfl, rfl, rfl⟩ (d1.keep k0) ?_
    rw [← hl]
    have k : ∀ b o, (s₁.heap.push { cls := .type "dict_values", data := .fields #[.ref a] }).get? b = some o → ((s₁.heap.push { cls := .type "dict_values", data := .fields #[.ref a] }).push { cls := .type "dict_valueiterator", data := .fields #[.ref a, .int 0 0, .int es.length 0, .int ep 0] }).get? b = some o := fun b o e => Heap.get?_push_of_some _ e
    refine ⟨_, _, _, σ₁, _, itOK_one (I := (s₁.heap.push { cls := .type "dict_values", data := .fields #[.ref a] }).objs.size) (O := fun i => { cls := .type "dict_valueiterator", data := .fields #[.ref a, .int i 0, .int es.length 0, .int ep 0] }) ⟨h₂.fresh_off, h₂.fresh_base, h₂.fresh_G⟩ (Heap.lt_size (Heap.get?_push_size _ rfl)) (fun _ => rfl) ?_ ?_ ?_ ?_, rfl, h₂.guardNew (tk := s₁.toks) k (Heap.get?_push_size _ rfl) rfl rfl (fun q => nomatch q), (i₁.trans (Imm.of_keeps k0)).trans (Imm.of_keeps k), q₁⟩
    · intro c' env' i σ₂ s₂ lv Q' E' hx gg im₂ h₂ kk
      obtain ⟨hz, kvs, d1, r1⟩ := h₂.dict_ep gg
      obtain ⟨ob, o1, o2, o3, _⟩ := h₂.it_at
      rw [List.getElem?_map] at hx
      cases h3 : es[i]? with
      | none => rw [h3] at hx; cases hx
      | some kv =>
        rw [h3] at hx; cases hx
        obtain ⟨u, h1, h2⟩ := r1.get h3
        exact wpAny_pyNext_values_item ⟨ob, o1, o2, by rw [← r1.length]; exact o3⟩ d1 h1 fun h' hit hs => by
          obtain ⟨ob', p1, p2, p3⟩ := hit
          exact kk _ h' s₂.toks ob' hs.extBut p1 p2 (by rw [r1.length]; exact p3) (fun q => nomatch q) fun im => h2.imm im
    · intro i s₂ v Q' E' ob o1 o2 o3 _ q'
      exact let_list o1 o2 o3 (by decide) q'
    · intro i s₂ Q' E' ob o1 o2 o3 o4 q'
      exact wpAny_pyIter_valiter (i := i) ⟨ob, o1, o2, o3⟩ q'
    · intro c' env' σ₂ s₂ Q' E' gg im₂ h₂ kk
      obtain ⟨hz, kvs, d1, r1⟩ := h₂.dict_ep gg
      obtain ⟨ob, o1, o2, o3, _⟩ := h₂.it_at
      refine wpAny_pyNext_values_end hh ⟨ob, o1, o2, by rw [← r1.length]; exact o3⟩ d1 (by have := r1.length; simp; omega) fun h' hs => kk h' s₂.toks hs
  · exact q₁.elim

theorem entry_dict_itemiterator_iter : entryFor table "dict_itemiterator.__iter__" = some Builtin.«dict_keyiterator.__iter__» :=
  entryFor_alias (id' := "dict_keyiterator.__iter__") (by kernel_rfl) rfl (by decide +kernel) (by kernel_rfl)
theorem pyIter_itemiter {it : Addr} {Q : Value → Shared → Prop} {E : Value → Shared → Prop} (hit : s.TypeIs (.ref it) "dict_itemiterator") (h : Q (.ref it) s) : wpAny (model prog w) A (pyIter (.ref it)) Q E s := by
  refine wpAny_pyIter_slot hit F.slot_dict_itemiterator_iter (wpAny_call_entry F.slot_dict_itemiterator_iter hit entry_dict_itemiterator_iter ?_ (F.args_dict_itemiterator_iter_1 _))
  show wpAny _ _ (ret (.ref it)) _ _ s
  exact wpAny_pure ⟨_, rfl, "dict_itemiterator", _, hit, F.slot_dict_itemiterator_next.lookup, h⟩
/-- the iterator of a dict's items, between two turns -/
abbrev itemObj (d : Addr) (i n ep : Nat) (ok ov : Value) : Obj := { cls := .type "dict_itemiterator", data := .fields #[.none, .bool false, .ref d, .int i 0, .int n 0, .int ep 0, ok, ov] }
theorem it_ents {elts : List Expr} {x1 : Nat} {tpos : Pos} {o : Expr} {apos pos : Pos} {mo : PTx LV} (hh : A.handled = none) (hbase : attributeBase o (Str.ofString "items") env (eval o env) = eval o env) (hline : (apos.endLine == pos.line) = true) (ho : Sim prog w TS n A env (eval o env) VRel mo) :
    SimIt prog w TS n A env (.Tuple elts x1 tpos) (.Call (.Attribute o (Str.ofString "items") apos) [] [] pos) (pbind mo fun a => pbind (pisdict a) fun _ => pents a) := fun c σ s W h Q E q => by
  refine meth0_go F.plainAttrs_dict F.slot_dict_items F.type_dict_items hbase hline ho isOf_dict W h (K := fun a σ => pents a Q E σ) q fun v x σ₁ s₁ rv h₁ i₁ q₁ => ?_
  unfold pents at q₁; split at q₁
  · obtain ⟨es, ep, e, q₁⟩ := q₁
    cases rv.ref_inv
    rename_i a
    obtain ⟨hz, kvs, d1, r1⟩ := h₁.dict_ep e
    have hl := r1.length
    refine call_meetsIn F.slot_dict_items d1.dictOf.typeIs F.entry_dict_items (F.args_dict_items_1 _) (meets_dict_items (intKind prog w) a (h₁.not_sysm W e)) ⟨⟨kvs, d1.dictOf⟩, ?_⟩
    have k0 : ∀ b o, s₁.heap.get? b = some o → (s₁.heap.push { cls := .type "dict_items", data := .fields #[.ref a] }).get? b = some o := fun b o e => Heap.get?_push_of_some _ e
    have h₂ := h₁.keeps (tk := s₁.toks) k0
    refine wpAny_pyIter_items ⟨_, Heap.get?_push_size _ rfl, rfl, rfl⟩ (d1.keep k0) ?_
    rw [← hl]
    obtain ⟨I, hI⟩ : ∃ I, I = (s₁.heap.push { cls := .type "dict_items", data := .fields #[.ref a] }).objs.size := ⟨_, rfl⟩
    have k : ∀ b o, (s₁.heap.push { cls := .type "dict_items", data := .fields #[.ref a] }).get? b = some o → ((s₁.heap.push { cls := .type "dict_items", data := .fields #[.ref a] }).push (itemObj a 0 es.length ep .none .none)).get? b = some o := fun b o e => Heap.get?_push_of_some _ e
    have foff := h₂.fresh_off; have fbase := h₂.fresh_base; have fG := h₂.fresh_G
    dsimp only at foff fbase fG
    rw [← hI] at foff fbase
    have ok : ItOK prog w c A env (.Tuple elts x1 tpos) (.ref I) (fun i L => ∃ ok ov, L = [(I, itemObj a i es.length ep ok ov)]) [I] (es.map fun kv => LV.tup [.int kv.1, kv.2]) (fun σ => σ.heap a = some (.dict es ep)) ((s₁.heap.push { cls := .type "dict_items", data := .fields #[.ref a] }).push (itemObj a 0 es.length ep .none .none)) := by
      refine ⟨fun b hb => by rw [List.mem_singleton.mp hb]; exact ⟨⟨foff, fbase, fun p hp => by rw [hI]; exact fG p hp⟩, by rw [hI]; exact Heap.lt_size (Heap.get?_push_size _ rfl)⟩, fun c' env' hcb hfr => ?_⟩
      have hI' := hfr I (.head _)
      refine ⟨fun i L ⟨ok, ov, hL⟩ p hp => by subst hL; rw [List.mem_singleton.mp hp]; exact .head _, fun b hb => by rw [List.mem_singleton.mp hb]; exact hI'.1, ?_, ?_, ?_⟩
      · rintro i L σ₂ s₂ lv P E' hx gg im₂ ⟨ok, ov, rfl⟩ h₂ kk
        obtain ⟨hz, kvs, d1, r1⟩ := h₂.dict_ep gg
        obtain ⟨ob, o1, o2, o3, o4⟩ := h₂.it_at
        cases o4 rfl
        rw [List.getElem?_map] at hx
        cases h3 : es[i]? with
        | none => rw [h3] at hx; cases hx
        | some kv =>
          rw [h3] at hx; cases hx
          obtain ⟨u, h1, h2⟩ := r1.get h3
          have o1' : IsItemIter s₂.heap I a i kvs.length ep ok ov := by rw [← r1.length]; exact o1
          refine wpAny_pyNext_items_item o1' d1 h1 fun key h' hk hit htup hsz hkeep => ?_
          obtain ⟨t, rfl⟩ := is_int hk
          refine ⟨_, rfl, wpAny_letOwnedTupleGo_items (s := { s₂ with heap := h' }) hit fun h'' hit' hs => ?_⟩
          have ke : Heap.ExtBut I s₂.heap h'' := fun b o hb e => hs.extBut b o hb (hkeep b o hb e)
          rw [← r1.length] at hit'
          obtain ⟨r, im⟩ := Rel.reguard (o' := itemObj a (i + 1) es.length ep (.int kv.1 t) u) (tk := s₂.toks) hI'.1 hI'.2.1 hI'.2.2 h₂ rfl ke hit' rfl rfl (fun _ => rfl)
          have hne : s₂.heap.objs.size ≠ I := Nat.ne_of_gt (Heap.lt_size o1)
          refine kk _ _ _ ?_ ⟨_, _, rfl⟩ r im
          exact .tup (items := [.int kv.1 t, u]) (n := 0) (hs.extBut _ _ hne htup) (.cons (.int _ _) (.cons (h2.imm im) .nil))
      · rintro i L σ₂ s₂ Q' E' ⟨ok, ov, rfl⟩ h₂ q'
        obtain ⟨ob, o1, o2, o3, o4⟩ := h₂.it_at
        cases o4 rfl
        exact pyIter_itemiter ⟨_, o1, rfl⟩ q'
      · rintro L σ₂ s₂ P E' gg im₂ ⟨ok, ov, rfl⟩ h₂ kk
        obtain ⟨hz, kvs, d1, r1⟩ := h₂.dict_ep gg
        obtain ⟨ob, o1, o2, o3, o4⟩ := h₂.it_at
        cases o4 rfl
        rw [List.length_map] at o1
        have o1' : IsItemIter s₂.heap I a es.length kvs.length ep ok ov := by rw [← r1.length]; exact o1
        refine wpAny_pyNext_items_end hh o1' d1 (by have := r1.length; simp; omega) fun h' hs => ?_
        obtain ⟨r, im⟩ := Rel.unguard (tk := s₂.toks) hI'.1 hI'.2.1 hI'.2.2 h₂ rfl hs
        exact kk _ r im
    have h₃ := h₂.guardNew (tk := s₁.toks) (o := itemObj a 0 es.length ep .none .none) k (Heap.get?_push_size _ rfl) rfl rfl (fun _ => rfl)
    rw [← hI]
    refine ⟨_, _, _, σ₁, _, ok, ⟨.none, .none, rfl⟩, ?_, (i₁.trans (Imm.of_keeps k0)).trans (Imm.of_keeps k), q₁⟩
    rw [hI]; exact h₃
  · exact q₁.elim

/-- what is known of a guarded object -/
def GAt (h : Heap) (p : Addr × Obj) : Prop := ∃ o, h.get? p.1 = some o ∧ o.cls = p.2.cls ∧ o.data = p.2.data ∧ (exactO p.2 = true → o = p.2)
theorem Rel.guards {O O' : List (Addr × Obj)} (h : Rel prog w (c.more O) env σ s) {h' : Heap} {tk : Nat} (hf : ∀ p ∈ O, Free c env p.1) (hO : ∀ p ∈ O', ∃ q ∈ O, q.1 = p.1) (ni : ∀ p ∈ O, immObj { p.2 with slots := #[] } = false)
    (k : ∀ b o, (∀ p ∈ O, b ≠ p.1) → s.heap.get? b = some o → h'.get? b = some o) (hg : ∀ p ∈ O', GAt h' p) : Rel prog w (c.more O') env σ { s with heap := h', toks := tk } ∧ Imm s.heap h' := by
  have im : Imm s.heap h' := fun b o e i => by
    refine k b o (fun p hp z => ?_) e
    obtain ⟨og, g, g1, g2, _⟩ := h.guard p (List.mem_append_left _ hp)
    rw [z, g] at e; cases e
    have := ni p hp
    unfold immObj at i this; rw [g2] at i; simp only at i this; rw [g1] at i; rw [i] at this; cases this
  have nσ : ∀ a lo, σ.heap a = some lo → ∀ p ∈ O, a ≠ p.1 := fun a lo e p hp => Ne.symm ((h.dom a lo e).2.2.1 p (List.mem_append_left _ hp))
  obtain ⟨m, ⟨oL, es, ep, e1, e2, e3⟩, n2⟩ := h.ns
  refine ⟨⟨fun b o e => k b o (fun p hp z => by rw [z, (hf p hp).2.1] at e; cases e) (h.keep b o e), fun p hp => ?_, ⟨m, ⟨oL, es, ep, k _ _ (fun p hp => Ne.symm (hf p hp).1.1) e1, e2, e3⟩, fun x hx => (n2 x hx).imm im⟩, fun x hx => ?_, fun y hy => ?_, fun a o e => (h.obj a o e).move im fun ob eb => k _ _ (nσ a o e) eb, fun a o e => ?_, h.gens, h.os, h.drawn⟩, im⟩
  · rcases List.mem_append.mp hp with hp | hp
    · exact hg p hp
    · obtain ⟨og, g, g1⟩ := h.guard p (List.mem_append_right _ hp)
      exact ⟨og, k _ _ (fun q hq => (hf q hq).2.2 p hp) g, g1⟩
  · obtain ⟨a, v, f1, ⟨oc, f2, f3⟩, f4⟩ := h.cell x hx
    exact ⟨a, v, f1, ⟨oc, k _ _ (fun q hq => (hf q hq).1.2 _ (mem_of_lookup f1)) f2, f3⟩, f4.imm im⟩
  · obtain ⟨v, oc, f2, f3⟩ := h.cin y hy
    exact ⟨v, oc, k _ _ (fun q hq => (hf q hq).1.2 _ hy) f2, f3⟩
  · obtain ⟨a1, a2, a3, a4⟩ := h.dom a o e
    refine ⟨a1, a2, fun p hp => ?_, a4⟩
    rcases List.mem_append.mp hp with hp | hp
    · obtain ⟨q, hq, hqp⟩ := hO p hp
      rw [← hqp]; exact a3 q (List.mem_append_left _ hq)
    · exact a3 p (List.mem_append_right _ hp)
theorem Rel.guards0 {O : List (Addr × Obj)} (h : Rel prog w (c.more O) env σ s) {h' : Heap} {tk : Nat} (hf : ∀ p ∈ O, Free c env p.1) (ni : ∀ p ∈ O, immObj { p.2 with slots := #[] } = false)
    (k : ∀ b o, (∀ p ∈ O, b ≠ p.1) → s.heap.get? b = some o → h'.get? b = some o) : Rel prog w c env σ { s with heap := h', toks := tk } ∧ Imm s.heap h' := by
  obtain ⟨r, im⟩ := h.guards (O' := []) (tk := tk) hf (fun _ hp => nomatch hp) ni k (fun _ hp => nomatch hp)
  exact ⟨r, im⟩
/-- several objects newly made, guarded -/
theorem Rel.guardNews (h : Rel prog w c env σ s) {h' : Heap} {tk : Nat} {O : List (Addr × Obj)} (k : ∀ b o, s.heap.get? b = some o → h'.get? b = some o) (hn : ∀ p ∈ O, s.heap.objs.size ≤ p.1) (hg : ∀ p ∈ O, GAt h' p) :
    Rel prog w (c.more O) env σ { s with heap := h', toks := tk } ∧ ∀ p ∈ O, Free c env p.1 := by
  have q := h.keeps (tk := tk) k
  have far : ∀ b o, s.heap.get? b = some o → ∀ p ∈ O, b ≠ p.1 := fun b o e p hp => Nat.ne_of_lt (Nat.lt_of_lt_of_le (Heap.lt_size e) (hn p hp))
  refine ⟨⟨q.keep, fun p hp => (List.mem_append.mp hp).elim (hg p) (q.guard p), q.ns, q.cell, q.cin, q.obj, fun a o e => ?_, q.gens, q.os, q.drawn⟩, fun p hp => ⟨⟨?_, fun y hy => ?_⟩, ?_, fun p' hp' => ?_⟩⟩
  · obtain ⟨a1, a2, a3, a4⟩ := h.dom a o e
    refine ⟨a1, a2, fun p hp => ?_, a4⟩
    rcases List.mem_append.mp hp with hp | hp
    · obtain ⟨ob', e', _⟩ := (h.obj a o e).notImm
      exact Ne.symm (far _ _ e' p hp)
    · exact a3 p hp
  · obtain ⟨m, ⟨oL, es, ep, e1, _⟩, _⟩ := h.ns; exact Ne.symm (far _ _ e1 p hp)
  · obtain ⟨v, oc, f2, f3⟩ := h.cin y hy; exact far _ _ f2 p hp
  · cases q9 : c.base.get? p.1 with
    | none => rfl
    | some o => exact absurd rfl (far _ _ (h.keep _ _ q9) p hp)
  · obtain ⟨og, g, _⟩ := h.guard p' hp'; exact far _ _ g p hp

abbrev enumObj (it : Addr) (i : Nat) (old : Value) : Obj := { cls := .type "enumerate", data := .fields #[.none, .bool false, .ref it, rawInt i, .none, old] }
theorem it_enum {elts : List Expr} {x1 : Nat} {tpos : Pos} {e : Expr} {np pos : Pos} {m : PTx LV} (hh : A.handled = none) (hv : TS.gl "enumerate" = some (.type "enumerate")) (hk : env.kindOf (Str.ofString "enumerate") = some .globalImplicit)
    (he : starEach [e] env = [(false, eval e env)]) (hm : Sim prog w TS n A env (eval e env) VRel m) :
    SimIt prog w TS n A env (.Tuple elts x1 tpos) (.Call (.Name (Str.ofString "enumerate") np) [e] [] pos) (pbind m penum) := fun c σ s W h Q E q => by
  refine wpAny_Call_ofName (at_glob hv hk (by decide) W h (callWith_machine rfl (by rw [he]; rfl) ?_))
  rw [he]
  refine spliced_cons ((hm c σ s W h).go (Imm.refl _) q fun v x σ₁ s₁ rv h₁ i₁ j₁ q₁ => spliced_nil ?_)
  unfold penum at q₁; split at q₁
  · obtain ⟨xs, e, q₁⟩ := q₁
    cases rv.ref_inv
    rename_i a
    obtain ⟨hz, it, n1, l1, r1⟩ := h₁.list_at e
    refine call_enumerate_list l1.isList fun h' hen hli hsz k => ?_
    refine wpAny_pyIter_enum hen ?_
    obtain ⟨I, hI⟩ : ∃ I, I = s₁.heap.objs.size + 1 := ⟨_, rfl⟩
    obtain ⟨J, hJ⟩ : ∃ J, J = s₁.heap.objs.size := ⟨_, rfl⟩
    rw [← hI, ← hJ] at hen; rw [← hJ] at hli; rw [← hI]
    have hIJ : I ≠ J := by omega
    obtain ⟨h₂, hfree⟩ := h₁.guardNews (tk := s₁.toks) (O := [(I, enumObj J 0 .none), (J, lIterObj a 0)]) k (fun p hp => by
        rcases List.mem_cons.mp hp with rfl | hp
        · show _ ≤ I; omega
        · rw [List.mem_singleton.mp hp]; show _ ≤ J; omega) (fun p hp => by
        rcases List.mem_cons.mp hp with rfl | hp
        · exact ⟨_, hen, rfl, rfl, fun _ => rfl⟩
        · rw [List.mem_singleton.mp hp]
          obtain ⟨ob, o1, o2, o3⟩ := hli
          exact ⟨ob, o1, o2, o3, fun q => nomatch q⟩)
    have fI := hfree (I, enumObj J 0 .none) (.head _)
    have fJ := hfree (J, lIterObj a 0) (.tail _ (.head _))
    have hfr : ∀ (o1 o2 : Obj), ∀ p ∈ [(I, o1), (J, o2)], Free c env p.1 := fun o1 o2 p hp => by
      rcases List.mem_cons.mp hp with rfl | hp
      · exact fI
      · rw [List.mem_singleton.mp hp]; exact fJ
    have ok : ItOK prog w c A env (.Tuple elts x1 tpos) (.ref I) (fun i L => ∃ old, L = [(I, enumObj J i old), (J, lIterObj a i)]) [I, J] (xs.zipIdx.map fun vi => LV.tup [.int vi.2, vi.1]) (fun σ => σ.heap a = some (.list xs)) h' := by
      refine ⟨fun b hb => by rcases List.mem_cons.mp hb with rfl | hb; exact ⟨fI, Heap.lt_size hen⟩; rw [List.mem_singleton.mp hb]; obtain ⟨ob, o1, _⟩ := hli; exact ⟨fJ, Heap.lt_size o1⟩, fun c' env' hcb hfr' => ?_⟩
      have fI := hfr' I (.head _)
      have fJ := hfr' J (.tail _ (.head _))
      have hfr : ∀ (o1 o2 : Obj), ∀ p ∈ [(I, o1), (J, o2)], Free c' env' p.1 := fun o1 o2 p hp => by
        rcases List.mem_cons.mp hp with rfl | hp
        · exact fI
        · rw [List.mem_singleton.mp hp]; exact fJ
      refine ⟨fun i L ⟨old, hL⟩ p hp => by subst hL; rcases List.mem_cons.mp hp with rfl | hp; exact .head _; rw [List.mem_singleton.mp hp]; exact .tail _ (.head _), fun b hb => by rcases List.mem_cons.mp hb with rfl | hb; exact fI.1; rw [List.mem_singleton.mp hb]; exact fJ.1, ?_, ?_, ?_⟩
      · rintro i L σ₂ s₂ lv P E' hx gg im₂ ⟨old, rfl⟩ h₂ kk
        obtain ⟨hz, it, n1, l1, r1⟩ := h₂.list_at gg
        obtain ⟨ob, o1, o2, o3, o4⟩ := h₂.guard (I, enumObj J i old) (.head _)
        cases o4 rfl
        obtain ⟨oj, j1, j2, j3, _⟩ := h₂.guard (J, lIterObj a i) (.tail _ (.head _))
        rw [List.getElem?_map, List.getElem?_zipIdx] at hx
        cases h3 : xs[i]? with
        | none => rw [h3] at hx; cases hx
        | some xv =>
          rw [h3] at hx; simp at hx; subst hx
          obtain ⟨u, h1, h2⟩ := r1.getA h3
          refine wpAny_pyNext_enum_item o1 ⟨oj, j1, j2, j3⟩ l1.isList h1 hIJ fun h₃ hen hli htup hsz hkeep => ?_
          refine ⟨_, rfl, wpAny_letOwnedTupleGo_enum (s := { s₂ with heap := h₃, toks := s₂.toks + 1 }) hen fun h₄ hen' hs => ?_⟩
          have hli' : h₄.IsListIter J a (i + 1) := by
            obtain ⟨oq, q1, q2, q3⟩ := hli
            exact ⟨oq, hs.extBut _ _ (Ne.symm hIJ) q1, q2, q3⟩
          obtain ⟨oq, q1, q2, q3⟩ := hli'
          have hen'' : h₄.get? I = some (enumObj J (i + 1) u) := by simpa [enumObj] using hen'
          obtain ⟨r, im⟩ := h₂.guards (O' := [(I, enumObj J (i + 1) u), (J, lIterObj a (i + 1))]) (tk := s₂.toks + 1) (hfr _ _) (fun p hp => by
              rcases List.mem_cons.mp hp with rfl | hp
              · exact ⟨_, .head _, rfl⟩
              · rw [List.mem_singleton.mp hp]; exact ⟨_, .tail _ (.head _), rfl⟩) (fun p hp => by
              rcases List.mem_cons.mp hp with rfl | hp
              · rfl
              · rw [List.mem_singleton.mp hp]; rfl) (fun b o hb e => hs.extBut b o (hb _ (.head _)) (hkeep b o (hb _ (.head _)) (hb _ (.tail _ (.head _))) e)) (fun p hp => by
              rcases List.mem_cons.mp hp with rfl | hp
              · exact ⟨_, hen'', rfl, rfl, fun _ => rfl⟩
              · rw [List.mem_singleton.mp hp]; exact ⟨oq, q1, q2, q3, fun q => nomatch q⟩)
          have hne : s₂.heap.objs.size ≠ I := Nat.ne_of_gt (Heap.lt_size o1)
          refine kk _ _ _ ?_ ⟨_, rfl⟩ r im
          exact .tup (items := [.int i s₂.toks, u]) (n := 0) (hs.extBut _ _ hne htup) (.cons (.int _ _) (.cons (h2.imm im) .nil))
      · rintro i L σ₂ s₂ Q' E' ⟨old, rfl⟩ h₂ q'
        obtain ⟨ob, o1, o2, o3, o4⟩ := h₂.guard (I, enumObj J i old) (.head _)
        cases o4 rfl
        exact wpAny_pyIter_enum o1 q'
      · rintro L σ₂ s₂ P E' gg im₂ ⟨old, rfl⟩ h₂ kk
        obtain ⟨hz, it, n1, l1, r1⟩ := h₂.list_at gg
        obtain ⟨ob, o1, o2, o3, o4⟩ := h₂.guard _ (.head _)
        cases o4 rfl
        obtain ⟨oj, j1, j2, j3, _⟩ := h₂.guard _ (.tail _ (.head _))
        simp only [List.length_map, List.length_zipIdx] at o1 j3
        refine wpAny_pyNext_enum_end hh o1 ⟨oj, j1, j2, j3⟩ l1.isList (by rw [← r1.sizeA]; simp) fun h₃ hs => ?_
        obtain ⟨r, im⟩ := h₂.guards0 (tk := s₂.toks) (hfr _ _) (fun p hp => by
              rcases List.mem_cons.mp hp with rfl | hp
              · rfl
              · rw [List.mem_singleton.mp hp]; rfl) (fun b o hb e => hs b o (hb _ (.tail _ (.head _))) e)
        exact kk _ r im
    exact ⟨_, _, _, σ₁, _, ok, ⟨.none, rfl⟩, h₂, i₁.trans (Imm.of_keeps k), q₁⟩
  · exact q₁.elim

theorem sub_ri_reversed : isSubtype (.type "range_iterator") (.type "reversed") = pure false := by rw [isSubtype_type]; kernel_rfl
theorem fits_small {x : Int} (h1 : -(2 ^ 40) ≤ x) (h2 : x ≤ 2 ^ 40) : Builtin.Range.rangeFitsLong x = true := by
  unfold Builtin.Range.rangeFitsLong; simp only [Bool.and_eq_true, decide_eq_true_eq]; omega
theorem call_range_reversed {r : Addr} {b : Int} {t u v : Tok} {Q : Value → Shared → Prop} {E : Value → Shared → Prop} (hr : IsRange s.heap r 0 b 1 t u v) (hb0 : 0 ≤ b) (hb : b ≤ 2 ^ 20)
    (h : Q (.ref s.heap.objs.size) { s with heap := s.heap.push { cls := .type "range_iterator", data := .fields #[rawInt (b - 1), rawInt b, rawInt (-1)] } }) : wpAny (model prog w) A (call (.builtin "range.__reversed__") [.ref r]) Q E s := by
  refine wpAny_call_entry F.slot_range_reversed ⟨_, hr, rfl⟩ F.entry_range_reversed ?_ (F.args_range_reversed_1 _)
  have hn : Builtin.Range.rangeSize 0 b 1 = b := by
    unfold Builtin.Range.rangeSize
    simp only [show ((1 : Int) > 0) = True from by simp, if_true]
    split <;> omega
  obtain ⟨hp, g, d, tk, os⟩ := s
  unfold Builtin.«range.__reversed__»
  wp_walk
  rw [hn, fits_small (by decide) (by decide), fits_small (by omega) (by omega), fits_small (by decide) (by decide), fits_small (by decide) (by decide), fits_small (by decide) (by decide)]
  simp only [Bool.and_self, Bool.not_true, Bool.false_eq_true, if_false, if_true, Int.zero_add, Int.mul_one]
  exact wpAny_bind (wpAny_newObj_type (wpAny_pure ⟨_, rfl, h⟩))
theorem newClass_rev (a : Value) : Builtin.SmallTypes.newClass "reversed" ⟨[.type "reversed", a], []⟩ = pure (.type "reversed", [a]) := by
  unfold Builtin.SmallTypes.newClass
  simp only [isType, F.sub_reversed_self, pure_bind, Bool.not_true, Bool.false_eq_true, if_false]
set_option maxRecDepth 100000 in
theorem call_reversed_range {r : Addr} {b : Int} {t u v : Tok} {Q : Value → Shared → Prop} {E : Value → Shared → Prop} (hr : IsRange s.heap r 0 b 1 t u v) (hb0 : 0 ≤ b) (hb : b ≤ 2 ^ 20)
    (h : Q (.ref s.heap.objs.size) { s with heap := s.heap.push { cls := .type "range_iterator", data := .fields #[rawInt (b - 1), rawInt b, rawInt (-1)] } }) : wpAny (model prog w) A (call (.type "reversed") [.ref r]) Q E s := by
  have hT : s.TypeIs (.ref r) "range" := ⟨_, hr, rfl⟩
  refine callType_other (U := "range_iterator") (Q₁ := fun obj s₁ => obj = .ref s.heap.objs.size ∧ s₁ = { s with heap := s.heap.push { cls := .type "range_iterator", data := .fields #[rawInt (b - 1), rawInt b, rawInt (-1)] } }) (by decide +kernel) F.create_reversed ⟨_, _, F.mro_reversed⟩ F.made_reversed sub_ri_reversed (F.typeCall_reversed_1 _) ?_ ?_
  · refine codeAny_of_tree ?_
    show wpAny _ A.in1.in1 (do checkBuiltinCall "reversed.__new__" ⟨[.type "reversed", .ref r], []⟩; again (.builtin "reversed.__new__" ⟨[.type "reversed", .ref r], []⟩)) _ _ s
    refine wpAny_bind (wpAny_of_eq (F.newCall_reversed_1 _) (wpAny_pure ⟨plainId_quiet F.plain_reversed_new _, codeAny_builtin F.entry_reversed_new ?_⟩))
    rw [Around.under_plainId F.plain_reversed_new _]
    unfold Builtin.«reversed.__new__»
    refine wpAny_bind (wpAny_of_eq (newClass_rev _) ?_)
    try dsimp only
    refine wpAny_bind (wpAny_of_eq (a := ()) (by first | rfl | kernel_rfl) ?_)
    refine wpAny_bind (wpAny_of_eq (a := ()) (by first | rfl | kernel_rfl) ?_)
    try dsimp only
    refine wpAny_bind (wpAny_specialOf hT F.slot_range_reversed.lookup ?_)
    try dsimp only
    refine wpAny_bind (wpAny_of_eq (F.slot_range_reversed.bind _) ?_)
    try dsimp only
    rw [if_neg (show ¬ ((Value.builtin "range.__reversed__" == Value.none) = true) from Bool.false_ne_true)]
    refine wpAny_bind (wpAny_rule ?_)
    refine wpAny_bind (m := runValue (.call (.builtin "range.__reversed__") ⟨[.ref r], []⟩)) (show wpAny _ _ (call (.builtin "range.__reversed__") [.ref r]) _ _ _ from call_range_reversed hr hb0 hb ?_)
    exact wpAny_bind (wpAny_pure (wpAny_pure ⟨rfl, rfl⟩))
  · rintro obj s₁ ⟨rfl, rfl⟩
    exact ⟨⟨_, Heap.get?_push_size _ rfl, rfl⟩, h⟩

theorem it_revr {tgt e : Expr} {np pos : Pos} {m : PTx LV} (hh : A.handled = none) (hv : TS.gl "reversed" = some (.type "reversed")) (hk : env.kindOf (Str.ofString "reversed") = some .globalImplicit)
    (he : starEach [e] env = [(false, eval e env)]) (hm : Sim prog w TS n A env (eval e env) VRel m) :
    SimIt prog w TS n A env tgt (.Call (.Name (Str.ofString "reversed") np) [e] [] pos) (pbind m prevr) := fun c σ s W h Q E q => by
  refine wpAny_Call_ofName (at_glob hv hk (by decide) W h (callWith_machine rfl (by rw [he]; rfl) ?_))
  rw [he]
  refine spliced_cons ((hm c σ s W h).go (Imm.refl _) q fun v x σ₁ s₁ rv h₁ i₁ j₁ q₁ => spliced_nil ?_)
  unfold prevr at q₁; split at q₁
  · rename_i a b d
    obtain ⟨⟨rfl, rfl, hb0, hb⟩, q₁⟩ := q₁
    cases rv with
    | rng er =>
      refine call_reversed_range er hb0 hb ?_
      obtain ⟨N, hN⟩ : ∃ N : Nat, b = (N : Int) := ⟨b.toNat, by omega⟩
      subst hN
      rw [Int.toNat_natCast] at q₁
      have k : ∀ b o, s₁.heap.get? b = some o → (s₁.heap.push { cls := .type "range_iterator", data := .fields #[rawInt ((N : Int) - 1), rawInt (N : Int), rawInt (-1)] }).get? b = some o := fun b o e => Heap.get?_push_of_some _ e
      refine wpAny_pyIter_rangeiter (Heap.get?_push_size _ rfl) ?_
      refine ⟨_, _, _, σ₁, _, itOK_one (I := s₁.heap.objs.size) (O := fun i => { cls := .type "range_iterator", data := .fields #[rawInt ((N : Int) - 1 - i), rawInt ((N : Int) - i), rawInt (-1)] }) ⟨h₁.fresh_off, h₁.fresh_base, h₁.fresh_G⟩ (Heap.lt_size (Heap.get?_push_size _ rfl)) (fun _ => rfl) ?_ ?_ ?_ ?_, rfl, h₁.guardNew (tk := s₁.toks) k (Heap.get?_push_size _ rfl) rfl (by simp) (fun _ => by simp), i₁.trans (Imm.of_keeps k), q₁⟩
      · intro c' env' i σ₂ s₂ lv Q' E' hx gg im₂ h₂ kk
        obtain ⟨ob, o1, o2, o3, o4⟩ := h₂.it_at
        cases o4 rfl
        have hlt : i < N := by simpa using (List.getElem?_eq_some_iff.mp hx).1
        rw [List.getElem?_reverse (by simpa using hlt), List.getElem?_map] at hx
        simp only [List.length_map, List.length_range] at hx
        rw [List.getElem?_range (by omega)] at hx
        simp at hx
        subst hx
        refine wpAny_pyNext_range_item o1 (by omega) fun h' hit hs => ?_
        have e1 : (N : Int) - 1 - (i : Int) + -1 = (N : Int) - 1 - ((i + 1 : Nat) : Int) := by omega
        have e2 : (N : Int) - (i : Int) - 1 = (N : Int) - ((i + 1 : Nat) : Int) := by omega
        rw [e1, e2] at hit
        refine kk _ h' _ _ hs.extBut hit rfl rfl (fun _ => rfl) fun im => ?_
        have e3 : ((N - 1 - i : Nat) : Int) = (N : Int) - 1 - (i : Int) := by omega
        rw [e3]; exact .int _ _
      · intro i s₂ v Q' E' ob o1 o2 o3 _ q'
        exact let_list o1 o2 o3 (by decide) q'
      · intro i s₂ Q' E' ob o1 o2 o3 o4 q'
        cases o4 rfl; exact wpAny_pyIter_rangeiter o1 q'
      · intro c' env' σ₂ s₂ Q' E' gg im₂ h₂ kk
        obtain ⟨ob, o1, o2, o3, o4⟩ := h₂.it_at
        cases o4 rfl
        exact wpAny_pyNext_range_end hh o1 (by simp) fun h' hs => kk h' s₂.toks hs
  · exact q₁.elim
end
end Mine
end
noncomputable section
open PySem PySem.W PyProof.Rows PySem.Calls PySem.SeqAt
set_option Elab.async false
set_option linter.unusedVariables false
namespace Mine

/-- the objects of a frame: its names, its cells -/
structure FrameG (h : Heap) (env : Env) (G : List (Addr × Obj)) : Prop where
  all : ∀ p ∈ G, h.get? p.1 = some p.2 ∧ (p.1 = env.locals ∨ ∃ y ∈ env.cells, y.2 = p.1)
  loc : ∃ o, (env.locals, o) ∈ G
  cells : ∀ y ∈ env.cells, ∃ o, (y.2, o) ∈ G

section
variable {prog : Program} {w : World} {TS : TopS} {c : Cx} {A : Around} {env : Env} {σ : LS} {s : Shared} {n : Nat}

theorem Rel.frame (h : Rel prog w c env σ s) : ∃ G, FrameG s.heap env G := by
  obtain ⟨m, ⟨oL, es, ep, e1, _⟩, _⟩ := h.ns
  have key : ∀ l : List (Str × Addr), (∀ y ∈ l, y ∈ env.cells) → ∃ G : List (Addr × Obj), (∀ p ∈ G, s.heap.get? p.1 = some p.2 ∧ ∃ y ∈ env.cells, y.2 = p.1) ∧ ∀ y ∈ l, ∃ o, (y.2, o) ∈ G := by
    intro l
    induction l with
    | nil => exact fun _ => ⟨[], fun _ hp => (nomatch hp), fun _ hp => (nomatch hp)⟩
    | cons y r ih =>
      intro hl
      obtain ⟨G, g1, g2⟩ := ih fun y' hy' => hl y' (.tail _ hy')
      obtain ⟨v, oc, c1, _⟩ := h.cin y (hl y (.head _))
      refine ⟨(y.2, oc) :: G, fun p hp => ?_, fun y' hy' => ?_⟩
      · rcases List.mem_cons.mp hp with rfl | hp
        · exact ⟨c1, y, hl y (.head _), rfl⟩
        · exact g1 p hp
      · rcases List.mem_cons.mp hy' with rfl | hy'
        · exact ⟨oc, .head _⟩
        · exact (g2 y' hy').imp fun _ q => .tail _ q
  obtain ⟨G, g1, g2⟩ := key env.cells fun _ q => q
  refine ⟨(env.locals, oL) :: G, fun p hp => ?_, ⟨oL, .head _⟩, fun y hy => (g2 y hy).imp fun _ q => .tail _ q⟩
  rcases List.mem_cons.mp hp with rfl | hp
  · exact ⟨e1, .inl rfl⟩
  · exact ⟨(g1 p hp).1, .inr (g1 p hp).2⟩

/-- what a new frame's names are -/
structure NewFrame (c : Cx) (env env' : Env) (loc : String → Option LV) (h h' : Heap) : Prop where
  new : h.objs.size ≤ env'.locals
  ns : ∃ m, h'.Ns env'.locals m ∧ ∀ x : String, env'.kindOf (Str.ofString x) = some .local → OV h' (loc x) (m (Str.ofString x))
  cell : ∀ (x : String), (env'.kindOf (Str.ofString x) = some .cell ∨ env'.kindOf (Str.ofString x) = some .free) → ∃ a v, env'.cells.lookup (Str.ofString x) = some a ∧ h'.IsCell a v ∧ OV h' (loc x) v
  cells : ∀ y ∈ env'.cells, y ∈ env.cells ∨ (env'.locals < y.2 ∧ ∃ v, h'.IsCell y.2 v)
  cellU : ∀ y ∈ env'.cells, ∀ y' ∈ env'.cells, y.2 = y'.2 → y.1 = y'.1
  kind : env'.scope.kind = .function
  glob : env'.globals = mainGlobals
  bui : env'.builtins = builtinsNs

theorem Rel.enter (h : Rel prog w c env σ s) {G : List (Addr × Obj)} (hG : FrameG s.heap env G) {env' : Env} {loc : String → Option LV} {h' : Heap} {tk : Nat} (k : ∀ b o, s.heap.get? b = some o → h'.get? b = some o)
    (nf : NewFrame c env env' loc s.heap h') : Rel prog w (c.more G) env' ⟨loc, σ.heap⟩ { s with heap := h', toks := tk } := by
  have q := h.keeps (tk := tk) k
  refine ⟨q.keep, fun p hp => ?_, nf.ns, nf.cell, fun y hy => ?_, q.obj, fun a o e => ?_, q.gens, q.os, q.drawn⟩
  · rcases List.mem_append.mp hp with hp | hp
    · exact ⟨p.2, k _ _ (hG.all p hp).1, rfl, rfl, fun _ => rfl⟩
    · exact q.guard p hp
  · rcases nf.cells y hy with hy | ⟨_, v, hv⟩
    · exact q.cin y hy
    · exact ⟨v, hv⟩
  · obtain ⟨a1, a2, a3, a4⟩ := h.dom a o e
    obtain ⟨ob, e1, _⟩ := (h.obj a o e).notImm
    have hlt := Heap.lt_size e1
    refine ⟨a1, fun z => ?_, fun p hp z => ?_, fun y hy z => ?_⟩
    · have := nf.new; rw [z] at hlt; exact absurd hlt (Nat.not_lt.mpr this)
    · rcases List.mem_append.mp hp with hp | hp
      · rcases (hG.all p hp).2 with q9 | ⟨y, hy, q9⟩
        · exact a2 (z.symm.trans q9)
        · exact a4 y hy (q9.trans z)
      · exact a3 p hp z
    · rcases nf.cells y hy with hy | ⟨hv, _⟩
      · exact a4 y hy z
      · rw [z] at hv; exact Nat.lt_irrefl _ (Nat.lt_of_lt_of_le (Nat.lt_trans hv hlt) nf.new)

theorem WF.enter {n' : Nat} {A' : Around} (W : WF TS n c A env) (h : Rel prog w c env σ s) {G : List (Addr × Obj)} (hG : FrameG s.heap env G) {env' : Env} {loc : String → Option LV} {h' : Heap}
    (nf : NewFrame c env env' loc s.heap h') (room : A'.depth + n' < recursionLimit) (units : A'.units + 64 * n' < cLine) (frl : ∀ L, env'.frame = some L → L ≤ env'.locals) (hhd : A'.handled = A.handled)
    (fr : env'.frame = some env'.locals → ∃ outer, A'.frames = some (env' :: outer) ∧ ∀ e ∈ outer, e.scope.kind ≠ .module ∧ ∃ L o, e.frame = some L ∧ (L, o) ∈ G ++ c.G ∧ c.base.get? L = none ∧ ∃ es ep, o.data = .dict es ep) : WF TS n' (c.more G) A' env' := by
  obtain ⟨m, ⟨oL, es, ep, e1, _⟩, _⟩ := h.ns
  have hL := Heap.lt_size e1
  have ab := W.sep.above
  have nw := nf.new
  have gl : ∀ p ∈ G ++ c.G, p.1 < s.heap.objs.size := fun p hp => by
    rcases List.mem_append.mp hp with hp | hp
    · exact Heap.lt_size (hG.all p hp).1
    · obtain ⟨og, g, _⟩ := h.guard p hp; exact Heap.lt_size g
  have cl : ∀ y ∈ env.cells, y.2 < s.heap.objs.size := fun y hy => by
    obtain ⟨v, oc, c1, _⟩ := h.cin y hy; exact Heap.lt_size c1
  refine ⟨⟨Nat.le_trans ab (Nat.le_trans (Nat.le_of_lt hL) nw), fun p hp => Nat.ne_of_lt (Nat.lt_of_lt_of_le (gl p hp) nw), fun y hy => ?_, fun y hy => ?_, nf.cellU, fun p hp y hy hlt => ?_, nf.kind, nf.glob, nf.bui⟩, room, units, W.top, frl, fun q e0 h0 => let ⟨o, vs, a, b⟩ := W.hand q e0 (hhd ▸ h0); ⟨o, vs, List.mem_append_right _ a, b⟩, fr⟩
  · rcases nf.cells y hy with hy | ⟨hv, _⟩
    · exact Nat.ne_of_lt (Nat.lt_of_lt_of_le (cl y hy) nw)
    · exact Nat.ne_of_gt hv
  · rcases nf.cells y hy with hy | ⟨hv, _⟩
    · exact W.sep.cellB y hy
    · show c.base.get? y.2 = none
      cases q : c.base.get? y.2 with
      | none => rfl
      | some o => exact absurd (Heap.lt_size q) (Nat.not_lt.mpr (Nat.le_trans (Nat.le_trans ab (Nat.le_trans (Nat.le_of_lt hL) nw)) (Nat.le_of_lt hv)))
  · exact Nat.ne_of_lt (Nat.lt_trans (Nat.lt_of_lt_of_le (gl p hp) nw) hlt)

theorem Rel.leave (h : Rel prog w c env σ s) {G : List (Addr × Obj)} (hG : FrameG s.heap env G) {env' : Env} {σ' : LS} {s' : Shared} (r : Rel prog w (c.more G) env' σ' s') (im : Imm s.heap s'.heap) : Rel prog w c env ⟨σ.loc, σ'.heap⟩ s' := by
  obtain ⟨m, ⟨oL, es, ep, e1, e2, e3⟩, n2⟩ := h.ns
  refine ⟨r.keep, fun p hp => r.guard p (List.mem_append_right _ hp), ⟨m, ?_, fun x hx => (n2 x hx).imm im⟩, fun x hx => ?_, fun y hy => ?_, r.obj, fun a o e => ?_, r.gens, r.os, r.drawn⟩
  · obtain ⟨o, ho⟩ := hG.loc
    have h1 := (hG.all _ ho).1
    rw [show (env.locals, o).1 = env.locals from rfl, e1] at h1; cases h1
    obtain ⟨og, g, g1, g2, _⟩ := r.guard _ (List.mem_append_left _ ho)
    exact ⟨og, es, ep, g, g2.trans e2, e3⟩
  · obtain ⟨a, v, f1, ⟨oc, f2, f3⟩, f4⟩ := h.cell x hx
    obtain ⟨o, ho⟩ := hG.cells _ (mem_of_lookup f1)
    have h1 := (hG.all _ ho).1
    dsimp only at h1
    rw [f2] at h1; cases h1
    obtain ⟨og, g, g1, g2, _⟩ := r.guard _ (List.mem_append_left _ ho)
    exact ⟨a, v, f1, ⟨og, g, g2.trans f3⟩, f4.imm im⟩
  · obtain ⟨v, oc, f2, f3⟩ := h.cin y hy
    obtain ⟨o, ho⟩ := hG.cells _ hy
    have h1 := (hG.all _ ho).1
    dsimp only at h1
    rw [f2] at h1; cases h1
    obtain ⟨og, g, g1, g2, _⟩ := r.guard _ (List.mem_append_left _ ho)
    exact ⟨v, og, g, g2.trans f3⟩
  · obtain ⟨a1, a2, a3, a4⟩ := r.dom a o e
    obtain ⟨o', ho⟩ := hG.loc
    refine ⟨a1, fun z => a3 _ (List.mem_append_left _ ho) z.symm, fun p hp => a3 p (List.mem_append_right _ hp), fun y hy z => ?_⟩
    obtain ⟨o'', ho''⟩ := hG.cells y hy
    exact a3 _ (List.mem_append_left _ ho'') z
end

-- the cells of a new frame
theorem cellsFrom_mem : ∀ (names : List (Str × NameKind)) (h : Heap) (acc : List (Str × Addr)), ∀ y ∈ cellsFrom h.objs.size names acc, y ∈ acc ∨ (h.objs.size ≤ y.2 ∧ (pushCells h names).IsCell y.2 none)
  | [], h, acc, y, hy => .inl hy
  | (name, kind) :: r, h, acc, y, hy => by
    unfold cellsFrom at hy
    unfold pushCells
    split at hy
    · rename_i hk
      rw [if_pos hk]
      have ih := cellsFrom_mem r (h.push { cls := .type "cell", data := .cell none }) ((name, h.objs.size) :: acc) y (by rw [Heap.size_push]; exact hy)
      rw [Heap.size_push] at ih
      rcases ih with ih | ⟨ih, ic⟩
      · rcases List.mem_cons.mp ih with rfl | ih
        · exact .inr ⟨Nat.le_refl _, ⟨_, pushCells_keeps _ _ _ _ (Heap.get?_push_size _ rfl), rfl⟩⟩
        · exact .inl ih
      · exact .inr ⟨Nat.le_of_succ_le ih, ic⟩
    · rename_i hk
      rw [if_neg hk]
      exact cellsFrom_mem r h acc y hy
theorem cellsFrom_uniq : ∀ (names : List (Str × NameKind)) (N : Nat) (acc : List (Str × Addr)), (∀ y ∈ acc, y.2 < N) → (∀ y ∈ acc, ∀ y' ∈ acc, y.2 = y'.2 → y.1 = y'.1) → ∀ y ∈ cellsFrom N names acc, ∀ y' ∈ cellsFrom N names acc, y.2 = y'.2 → y.1 = y'.1
  | [], N, acc, _, h => h
  | (name, kind) :: r, N, acc, hl, h => by
    unfold cellsFrom
    split
    · refine cellsFrom_uniq r (N + 1) ((name, N) :: acc) (fun y hy => ?_) (fun y hy y' hy' e => ?_)
      · rcases List.mem_cons.mp hy with rfl | hy
        · exact Nat.lt_succ_self _
        · exact Nat.lt_succ_of_lt (hl y hy)
      · rcases List.mem_cons.mp hy with rfl | hy <;> rcases List.mem_cons.mp hy' with rfl | hy'
        · rfl
        · have := hl y' hy'; rw [← e] at this; exact absurd this (Nat.lt_irrefl _)
        · have := hl y hy; rw [e] at this; exact absurd this (Nat.lt_irrefl _)
        · exact h y hy y' hy' e
    · exact cellsFrom_uniq r N acc hl h
theorem cellsFrom_keep : ∀ (names : List (Str × NameKind)) (N : Nat) (acc : List (Str × Addr)) (x : Str), (∀ y ∈ names, y.1 = x → y.2 ≠ .cell) → (cellsFrom N names acc).lookup x = acc.lookup x
  | [], N, acc, x, _ => rfl
  | (name, kind) :: r, N, acc, x, h => by
    unfold cellsFrom
    split
    · rename_i hk
      rw [cellsFrom_keep r (N + 1) _ x fun y hy => h y (.tail _ hy), List.lookup_cons]
      have : (x == name) = false := by
        cases q : x == name with
        | false => rfl
        | true => exact absurd (by simpa using hk) (h (name, kind) (.head _) (beq_iff_eq.mp q).symm)
      rw [this]
    · exact cellsFrom_keep r N acc x fun y hy => h y (.tail _ hy)
theorem cellsFrom_old : ∀ (names : List (Str × NameKind)) (N N0 : Nat) (acc : List (Str × Addr)) (x : Str), N0 ≤ N → (∃ a, acc.lookup x = some a ∧ N0 ≤ a) → ∃ a, (cellsFrom N names acc).lookup x = some a ∧ N0 ≤ a
  | [], N, N0, acc, x, _, h => h
  | (name, kind) :: r, N, N0, acc, x, hN, h => by
    unfold cellsFrom
    split
    · refine cellsFrom_old r (N + 1) N0 _ x (Nat.le_succ_of_le hN) ?_
      rw [List.lookup_cons]
      cases x == name
      · exact h
      · exact ⟨N, rfl, hN⟩
    · exact cellsFrom_old r N N0 acc x hN h
theorem cellsFrom_own : ∀ (names : List (Str × NameKind)) (N : Nat) (acc : List (Str × Addr)) (x : Str), (x, .cell) ∈ names → ∃ a, (cellsFrom N names acc).lookup x = some a ∧ N ≤ a
  | (name, kind) :: r, N, acc, x, h => by
    unfold cellsFrom
    rcases List.mem_cons.mp h with q | h
    · cases q
      rw [if_pos (by rfl)]
      exact cellsFrom_old r (N + 1) N _ _ (Nat.le_succ _) ⟨N, by simp, Nat.le_refl _⟩
    · split
      · obtain ⟨a, h1, h2⟩ := cellsFrom_own r (N + 1) ((name, N) :: acc) x h
        exact ⟨a, h1, Nat.le_of_succ_le h2⟩
      · exact cellsFrom_own r N acc x h
end Mine
end
noncomputable section
open PySem PySem.W PyProof.Rows PySem.Calls PySem.SeqAt
set_option Elab.async false
set_option linter.unusedVariables false
set_option linter.unusedSimpArgs false
namespace Mine

def clOf (scope : Scope) (env : Env) : List (Str × Addr) := ((scope.names.filter fun y => y.2 == .free).reverse).map fun y => (y.1, (env.cells.lookup y.1).getD 0)
def compEnv (scope : Scope) (env : Env) (C : Addr) : Env :=
  { scope := relabel scope env, locals := C, globals := env.globals, cells := cellsFrom (C + 1) scope.names (clOf scope env), qual := env.qual, func := none, code := env.code, frame := env.frame, builtins := env.builtins }
def compOk (scope : Scope) (env : Env) (own : List String) : Bool :=
  scope.kind == .function && scope.names.all (fun y => scope.names.lookup y.1 == some y.2) && ((scope.names.filter fun y => y.2 == .local || y.2 == .cell).map (·.1)) == own.map Str.ofString
    && scope.names.all fun y => y.2 != .free || ((env.cells.lookup y.1).isSome && (env.kindOf y.1 == some .cell || env.kindOf y.1 == some .free))

structure CompF (scope : Scope) (env : Env) (own : List String) : Prop where
  kind : scope.kind = .function
  uniq : ∀ y ∈ scope.names, scope.names.lookup y.1 = some y.2
  own : (scope.names.filter fun y => y.2 == .local || y.2 == .cell).map (·.1) = own.map Str.ofString
  free : ∀ y ∈ scope.names, y.2 = .free → (env.cells.lookup y.1).isSome = true ∧ (env.kindOf y.1 = some .cell ∨ env.kindOf y.1 = some .free)
theorem compF {scope : Scope} {env : Env} {own : List String} (h : compOk scope env own = true) : CompF scope env own := by
  unfold compOk at h
  simp only [Bool.and_eq_true, List.all_eq_true] at h
  obtain ⟨⟨⟨h1, h2⟩, h3⟩, h4⟩ := h
  refine ⟨by simpa using h1, fun y hy => by simpa using h2 y hy, by simpa using h3, fun y hy hf => ?_⟩
  have := h4 y hy
  rw [hf] at this
  simpa using this

theorem closure_aux (env : Env) : ∀ (names : List (Str × NameKind)) (acc : List (Str × Addr)), (∀ y ∈ names, y.2 = .free → (env.cells.lookup y.1).isSome = true) →
    (forIn names acc (fun (x : Str × NameKind) (cs : List (Str × Addr)) => (if (x.2 == .free) = true then do let a ← cellOf env x.1; pure (ForInStep.yield ((x.1, a) :: cs)) else pure (ForInStep.yield cs) : Sem (ForInStep (List (Str × Addr)))))) =
      pure ((((names.filter fun y => y.2 == .free).reverse).map fun y => (y.1, (env.cells.lookup y.1).getD 0)) ++ acc)
  | [], acc, _ => by simp
  | (x, k) :: r, acc, h => by
    rw [List.forIn_cons]
    by_cases hk : (k == NameKind.free) = true
    · obtain ⟨a, ha⟩ := Option.isSome_iff_exists.mp (h (x, k) (.head _) (by simpa using hk))
      have hc : cellOf env x = pure a := by unfold cellOf; rw [ha]
      simp only [hk, if_true, hc, pure_bind]
      rw [closure_aux env r _ fun y hy => h y (.tail _ hy)]
      simp [List.filter_cons, hk, ha]
    · simp only [hk, if_false, pure_bind, Bool.false_eq_true]
      rw [closure_aux env r _ fun y hy => h y (.tail _ hy)]
      simp [List.filter_cons, hk]
theorem closure_of {scope : Scope} {env : Env} {own : List String} (h : CompF scope env own) : closureFor scope env = pure (clOf scope env) := by
  have := closure_aux env scope.names [] fun y hy hf => (h.free y hy hf).1
  unfold closureFor
  simp only [List.append_nil] at this
  refine Eq.trans (congrArg (fun z => z >>= pure) this) ?_
  rfl

theorem relabel_lookup {env : Env} : ∀ {names : List (Str × NameKind)} {x : Str} {k : NameKind},
    (names.map fun (n, k) => if (k == NameKind.free && env.scope.kind == .function && env.kindOf n == some .cell) then (n, NameKind.cell) else (n, k)).lookup x = some k →
      ∃ k0, names.lookup x = some k0 ∧ (k = k0 ∨ (k0 = .free ∧ k = .cell))
  | [], _, _, h => by simp at h
  | (n, k1) :: r, x, k, h => by
    have ih := @relabel_lookup env r x k
    rw [List.map_cons] at h
    dsimp only at h
    rw [List.lookup_cons]
    cases hx : x == n with
    | true =>
      refine ⟨k1, rfl, ?_⟩
      by_cases hc : (k1 == NameKind.free && env.scope.kind == .function && env.kindOf n == some .cell) = true
      · rw [if_pos hc, List.lookup_cons, hx] at h
        simp only [Bool.and_eq_true, beq_iff_eq] at hc
        exact .inr ⟨hc.1.1, (Option.some.inj h).symm⟩
      · rw [if_neg hc, List.lookup_cons, hx] at h
        exact .inl (Option.some.inj h).symm
    | false =>
      refine ih ?_
      by_cases hc : (k1 == NameKind.free && env.scope.kind == .function && env.kindOf n == some .cell) = true
      · rw [if_pos hc, List.lookup_cons, hx] at h; exact h
      · rw [if_neg hc, List.lookup_cons, hx] at h; exact h

theorem lookup_map_key {f : Str → Addr} : ∀ {l : List (Str × NameKind)} {x : Str}, (∃ k, (x, k) ∈ l) → (l.map fun y => (y.1, f y.1)).lookup x = some (f x)
  | [], _, ⟨k, h⟩ => nomatch h
  | (n, k0) :: r, x, ⟨k, h⟩ => by
    rw [List.map_cons, List.lookup_cons]
    cases hx : x == n with
    | true => rw [beq_iff_eq.mp hx]
    | false =>
      refine lookup_map_key (l := r) ⟨k, ?_⟩
      rcases List.mem_cons.mp h with q | q
      · cases q; simp at hx
      · exact q

section
variable {prog : Program} {w : World} {TS : TopS} {c : Cx} {A : Around} {env : Env} {σ : LS} {s : Shared} {n : Nat}

theorem CompF.isOwn {scope : Scope} {own : List String} (F : CompF scope env own) {x : String} {k : NameKind} (h : scope.names.lookup (Str.ofString x) = some k) : own.contains x = true ↔ (k = .local ∨ k = .cell) := by
  have e : own.contains x = true ↔ Str.ofString x ∈ own.map Str.ofString := by
    rw [List.contains_iff_mem, List.mem_map]
    exact ⟨fun q => ⟨x, q, rfl⟩, fun ⟨y, q, r⟩ => by rw [← ofString_inj.mp r]; exact q⟩
  rw [e, ← F.own, List.mem_map]
  constructor
  · rintro ⟨y, hy, hx⟩
    obtain ⟨h1, h2⟩ := List.mem_filter.mp hy
    have := F.uniq y h1
    rw [hx, h] at this; cases this
    simpa using h2
  · intro hk
    refine ⟨(Str.ofString x, k), List.mem_filter.mpr ⟨mem_of_lookup h, ?_⟩, rfl⟩
    rcases hk with rfl | rfl <;> rfl

/-- the frame of a comprehension's own names -/
theorem comp_frame {scope : Scope} {own : List String} (F : CompF scope env own) (W : WF TS n c A env) (h : Rel prog w c env σ s) :
    NewFrame c env (compEnv scope env s.heap.objs.size) (fun x => if own.contains x = true then none else σ.loc x) s.heap (pushCells (s.heap.push { cls := .type "dict", data := .dict #[] }) scope.names) := by
  have k : ∀ b o, s.heap.get? b = some o → (pushCells (s.heap.push { cls := .type "dict", data := .dict #[] }) scope.names).get? b = some o := fun b o e => pushCells_keeps _ _ _ _ (Heap.get?_push_of_some _ e)
  have im := Imm.of_keeps k
  have hcl : ∀ y ∈ clOf scope env, y ∈ env.cells := fun y hy => by
    obtain ⟨z, hz, rfl⟩ := List.mem_map.mp hy
    obtain ⟨h1, h2⟩ := List.mem_filter.mp (List.mem_reverse.mp hz)
    obtain ⟨a, ha⟩ := Option.isSome_iff_exists.mp (F.free z h1 (by simpa using h2)).1
    rw [ha]; exact mem_of_lookup ha
  have hmem : ∀ y ∈ (compEnv scope env s.heap.objs.size).cells, y ∈ clOf scope env ∨ (s.heap.objs.size < y.2 ∧ (pushCells (s.heap.push { cls := .type "dict", data := .dict #[] }) scope.names).IsCell y.2 none) := fun y hy => by
    have := cellsFrom_mem scope.names (s.heap.push { cls := .type "dict", data := .dict #[] }) (clOf scope env) y (by rw [Heap.size_push]; exact hy)
    rw [Heap.size_push] at this
    exact this
  refine ⟨Nat.le_refl _, ⟨fun _ => none, (Heap.Ns.new s.heap (.type "dict")).keeps (pushCells_keeps _ _), fun x hx => ?_⟩, fun x hx => ?_, fun y hy => ?_, ?_, F.kind, W.sep.glob, W.sep.bui⟩
  · obtain ⟨k0, h1, h2⟩ := relabel_lookup hx
    have : k0 = .local := by rcases h2 with rfl | ⟨_, q⟩; rfl; cases q
    rw [if_pos ((F.isOwn h1).mpr (.inl this))]; trivial
  · have hx' : ∃ k0, scope.names.lookup (Str.ofString x) = some k0 ∧ (k0 = .cell ∨ k0 = .free) := by
      rcases hx with hx | hx
      · obtain ⟨k0, h1, h2⟩ := relabel_lookup hx
        exact ⟨k0, h1, by rcases h2 with q | q; exact .inl q.symm; exact .inr q.1⟩
      · obtain ⟨k0, h1, h2⟩ := relabel_lookup hx
        exact ⟨k0, h1, by rcases h2 with q | q; exact .inr q.symm; cases q.2⟩
    obtain ⟨k0, h1, h2⟩ := hx'
    rcases h2 with rfl | rfl
    · obtain ⟨a, ha, hlt⟩ := cellsFrom_own scope.names (s.heap.objs.size + 1) (clOf scope env) (Str.ofString x) (mem_of_lookup h1)
      rcases hmem _ (mem_of_lookup ha) with q | ⟨_, q⟩
      · obtain ⟨v, oc, c1, _⟩ := h.cin _ (hcl _ q)
        exact absurd (Heap.lt_size c1) (Nat.not_lt.mpr (Nat.le_of_succ_le hlt))
      · refine ⟨a, none, ha, q, ?_⟩
        rw [if_pos ((F.isOwn h1).mpr (.inr rfl))]; trivial
    · have hno : ¬ own.contains x = true := fun q => by rcases (F.isOwn h1).mp q with q | q <;> cases q
      have e1 : (compEnv scope env s.heap.objs.size).cells.lookup (Str.ofString x) = (clOf scope env).lookup (Str.ofString x) := cellsFrom_keep _ _ _ _ fun y hy hyx => by
        have := F.uniq y hy; rw [hyx, h1] at this; intro q; rw [q] at this; cases this
      obtain ⟨a, v, f1, f2, f3⟩ := h.cell x (F.free _ (mem_of_lookup h1) rfl).2
      have e2 : (clOf scope env).lookup (Str.ofString x) = some ((env.cells.lookup (Str.ofString x)).getD 0) := lookup_map_key (f := fun z => (env.cells.lookup z).getD 0) ⟨.free, List.mem_reverse.mpr (List.mem_filter.mpr ⟨mem_of_lookup h1, rfl⟩)⟩
      rw [if_neg hno]
      refine ⟨a, v, ?_, f2.keeps k, f3.imm im⟩
      rw [e1, e2, f1]; rfl
  · rcases hmem y hy with q | ⟨q1, q2⟩
    · exact .inl (hcl y q)
    · exact .inr ⟨q1, none, q2⟩
  · refine cellsFrom_uniq _ _ _ (fun y hy => ?_) (fun y hy y' hy' e => W.sep.cellU _ (hcl y hy) _ (hcl y' hy') e)
    obtain ⟨v, oc, c1, _⟩ := h.cin _ (hcl _ hy)
    exact Nat.lt_succ_of_lt (Heap.lt_size c1)

theorem newCompEnv {M : Model} {scope : Scope} {cl : List (Str × Addr)} {Q : Env → Shared → Prop} {E : Value → Shared → Prop}
    (q : Q { scope, locals := s.heap.objs.size, globals := env.globals, cells := cellsFrom (s.heap.objs.size + 1) scope.names cl, qual := env.qual, func := none, code := env.code, frame := env.frame, builtins := env.builtins } { s with heap := pushCells (s.heap.push { cls := .type "dict", data := .dict #[] }) scope.names }) :
    wpAny M A (newFunctionEnv scope env.globals cl [] env.qual none .none (some env)) Q E s := by
  simp only [newFunctionEnv, Option.isSome_some, if_true]
  refine wpAny_bind (wpAny_alloc ?_)
  refine wpAny_bind (wpAny_layCells _ (fun name kind cells => by cases hkc : kind == NameKind.cell <;> simp [hkc]) _ _ _ _ ?_)
  rw [show ({ s with heap := s.heap.push { cls := .type "dict", data := .dict #[] } } : Shared).heap.objs.size = s.heap.objs.size + 1 from Heap.size_push ..]
  rw [List.forIn_nil]
  exact wpAny_bind (wpAny_pure (wpAny_pure q))
end
end Mine
end
noncomputable section
open PySem PySem.W PyProof.Rows PySem.Calls PySem.SeqAt
set_option Elab.async false
set_option linter.unusedVariables false
set_option linter.unusedSimpArgs false
namespace Mine

abbrev noE : LX → LS → Prop := fun _ _ => False
def pcompL (g : LS → Prop) (bind : LV → PTx Unit) (body : PTx Unit) : List LV → PTx Unit
  | [] => fun Q _ σ => g σ ∧ Q () σ
  | v :: vs => fun Q E σ => g σ ∧ bind v (fun _ σ' => body (fun _ σ'' => pcompL g bind body vs Q E σ'') E σ') E σ
/-- a comprehension's inside: names of its own, the others as they are -/
abbrev pown (own : List String) (m : PTx Unit) : PTx Unit := fun Q _ σ => m (fun _ σ' => Q () ⟨σ.loc, σ'.heap⟩) noE ⟨fun x => if own.contains x = true then none else σ.loc x, σ.heap⟩
abbrev pcomp (lo : LO) (it : PTx LIt) (own : List String) (bind : LV → PTx Unit) (body : LV → PTx Unit) : PTx LV := fun Q E σ =>
  it (fun r σ₁ => ∀ D, σ₁.heap D = none → pown own (pcompL r.2 bind (body (.ref D)) r.1) (fun _ σ₂ => Q (.ref D) σ₂) E (σ₁.put D lo)) E σ

section
variable {prog : Program} {w : World} {TS : TopS} {c : Cx} {A : Around} {env : Env} {σ : LS} {s : Shared} {n : Nat}

abbrev Fls : Value → Shared → Prop := fun _ _ => False

/-- the loop of a comprehension, by a rule for its turn -/
theorem comp_loop {e : Expr} {depth : Nat} {tgt : Expr} {it acc : Value} {Body : (Shared → Prop) → Shared → Prop} {St : Nat → List (Addr × Obj) → Prop} {addrs : List Addr} {items : List LV} {g : LS → Prop} {h0 : Heap} {bind : LV → PTx Unit} {mb : PTx Unit}
    (hstep : ∀ (R : Result → Shared → Prop) s, wpAny (model prog w) A (pyNext it) (fun r s₁ => match r with
      | none => R (.ok .next) s₁
      | some v => wpAny (model prog w) A (letOwnedTupleGo tgt it v) (fun _ s₂ => wpAny (model prog w) A (assign tgt env v) (fun _ s₃ => Body (fun s₄ => codeAny (model prog w) A (.compLoop e depth it acc env) R s₄) s₃) Fls s₂) Fls s₁) Fls s → codeAny (model prog w) A (.compLoop e depth it acc env) R s)
    (W : WF TS n c A env) (ok : NextOK prog w c A env tgt it St addrs items g h0) (ht : Sim1 prog w TS n A env (assign tgt env) REq bind)
    (hb : ∀ c σ s, WF TS n c A env → Rel prog w c env σ s → ∀ (Q : Unit → LS → Prop) (K : Shared → Prop), mb Q noE σ → (∀ f σ' s', Rel prog w c env σ' s' → Imm s.heap s'.heap → Q f σ' → K s') → Body K s)
    {R : Result → Shared → Prop} {Q : Unit → LS → Prop} {O₀ : List (Addr × Obj)} (h : Rel prog w (c.more O₀) env σ s) (st₀ : St 0 O₀) (i0 : Imm h0 s.heap) (q : pcompL g bind mb items Q noE σ)
    (fin : ∀ f σ' s', Rel prog w c env σ' s' → Imm s.heap s'.heap → Q f σ' → R (.ok .next) s') : codeAny (model prog w) A (.compLoop e depth it acc env) R s := by
  have key : ∀ (k : Nat) (i : Nat), items.length - i = k → i ≤ items.length → ∀ O σ₁ s₁, St i O → Rel prog w (c.more O) env σ₁ s₁ → Imm s.heap s₁.heap → pcompL g bind mb (items.drop i) Q noE σ₁ →
      codeAny (model prog w) A (.compLoop e depth it acc env) R s₁ := by
    intro k
    induction k with
    | zero =>
      intro i hk hle O σ₁ s₁ st₁ h₁ i₁ q₁
      obtain rfl : i = items.length := by omega
      rw [List.drop_length] at q₁
      obtain ⟨g₁, q₁⟩ := q₁
      exact hstep R s₁ (ok.done O σ₁ s₁ _ _ g₁ (i0.trans i₁) st₁ h₁ fun s₃ h₃ i₃ => fin _ σ₁ s₃ h₃ (i₁.trans i₃) q₁)
    | succ k ih =>
      intro i hk hle O σ₁ s₁ st₁ h₁ i₁ q₁
      have hlt : i < items.length := by omega
      rw [List.drop_eq_getElem_cons hlt] at q₁
      obtain ⟨g₁, q₁⟩ := q₁
      have W' : ∀ O', St (i + 1) O' → WF TS n (c.more O') A env := fun O' st' => W.more fun p hp => ok.off _ (ok.sub (i + 1) O' st' p hp)
      refine hstep R s₁ (wpAny_mono (ok.item i O σ₁ s₁ items[i] (fun v s₂ => wpAny (model prog w) A (assign tgt env v) (fun _ s₃ => Body (fun s₄ => codeAny (model prog w) A (.compLoop e depth it acc env) R s₄) s₃) Fls s₂) Fls (by simp [hlt]) g₁ (i0.trans i₁) st₁ h₁ fun v s₉ O' rv st₉ h₉ i₉ => ?_) (fun r s₉ p => ?_) fun _ _ x => x)
      · refine wpAny_mono ((ht _ σ₁ s₉ _ _ (W' O' st₉) h₉ rv).go (Imm.refl _) q₁ (P := fun _ s₃ => Body (fun s₄ => codeAny (model prog w) A (.compLoop e depth it acc env) R s₄) s₃) fun _ _ σ₃ s₃ _ h₃ i₃ j₃ q₃ => ?_) (fun _ _ x => x) fun _ _ x => by obtain ⟨_, _, _, _, _, f⟩ := x; exact f
        refine hb _ σ₃ s₃ (W' O' st₉) h₃ _ _ q₃ fun f σ₄ s₄ h₄ i₄ q₄ => ?_
        exact ih (i + 1) (by omega) hlt O' σ₄ s₄ st₉ h₄ (((i₁.trans i₉).trans i₃).trans i₄) q₄
      · obtain ⟨v, rfl, p⟩ := p
        exact p
  exact key _ 0 rfl (Nat.zero_le _) O₀ σ s st₀ h (Imm.refl _) (by simpa using q)

theorem Rel.perm {c' : Cx} (h : Rel prog w c env σ s) (hb : c'.base = c.base) (hg : ∀ p, p ∈ c'.G ↔ p ∈ c.G) (h1 : c'.gens = c.gens) (h2 : c'.os = c.os) (h3 : c'.drawn = c.drawn) : Rel prog w c' env σ s :=
  ⟨by rw [hb]; exact h.keep, fun p hp => h.guard p ((hg p).mp hp), h.ns, h.cell, h.cin, h.obj, fun a o e => let ⟨a1, a2, a3, a4⟩ := h.dom a o e; ⟨by rw [hb]; exact a1, a2, fun p hp => a3 p ((hg p).mp hp), a4⟩, h.gens.trans h1.symm, h.os.trans h2.symm, h.drawn.trans h3.symm⟩

/-- a comprehension from where its iterator and the new list or dict are made -/
theorem comp_core {e : Expr} {tgt : Expr} {it acc : Value} {scope : Scope} {own : List String} {St : Nat → List (Addr × Obj) → Prop} {addrs : List Addr} {items : List LV} {g : LS → Prop} {bind : LV → PTx Unit} {mb : PTx Unit} {s₂ s₃ : Shared} {O : List (Addr × Obj)}
    {R : Result → Shared → Prop} {Q : Unit → LS → Prop} {E : LX → LS → Prop}
    (F : CompF scope env own) (W : WF TS n c A env) (iok : ItOK prog w c A env tgt it St addrs items g s₂.heap) (st₀ : St 0 O) (h₃ : Rel prog w (c.more O) env σ s₃) (i₂ : Imm s₂.heap s₃.heap) (hsz : s₂.heap.objs.size ≤ s₃.heap.objs.size)
    (hloop : ∀ (c' : Cx) σ₄ s₄, WF TS n c' A (compEnv scope env s₃.heap.objs.size) → NextOK prog w c' A (compEnv scope env s₃.heap.objs.size) tgt it St addrs items g s₂.heap → Rel prog w (c'.more O) (compEnv scope env s₃.heap.objs.size) σ₄ s₄ → Imm s₂.heap s₄.heap →
      pcompL g bind mb items (fun _ σ' => Q () ⟨σ.loc, σ'.heap⟩) noE σ₄ → (∀ σ' s', Rel prog w c' (compEnv scope env s₃.heap.objs.size) σ' s' → Imm s₄.heap s'.heap → Q () ⟨σ.loc, σ'.heap⟩ → R (.ok .next) s') → codeAny (model prog w) A (.compStart e 0 it acc (compEnv scope env s₃.heap.objs.size)) R s₄)
    (q : pown own (pcompL g bind mb items) Q E σ)
    (fin : ∀ σ' s' m, Rel prog w c env σ' s' → Imm s₃.heap s'.heap → s'.heap.Ns s₃.heap.objs.size m → σ'.heap s₃.heap.objs.size = none → Q () σ' → R (.ok .next) s') :
    codeAny (model prog w) A (.compStart e 0 it acc (compEnv scope env s₃.heap.objs.size)) R { s₃ with heap := pushCells (s₃.heap.push { cls := .type "dict", data := .dict #[] }) scope.names } := by
  have k : ∀ b o, s₃.heap.get? b = some o → (pushCells (s₃.heap.push { cls := .type "dict", data := .dict #[] }) scope.names).get? b = some o := fun b o e => pushCells_keeps _ _ _ _ (Heap.get?_push_of_some _ e)
  have h₃' := h₃.less
  obtain ⟨G, hG⟩ := h₃'.frame
  have nf := comp_frame F W h₃'
  have h₄ := (h₃.enter hG (tk := s₃.toks) k ⟨nf.new, nf.ns, nf.cell, nf.cells, nf.cellU, nf.kind, nf.glob, nf.bui⟩)
  have h₅ : Rel prog w ((c.more G).more O) (compEnv scope env s₃.heap.objs.size) ⟨fun x => if own.contains x = true then none else σ.loc x, σ.heap⟩ { s₃ with heap := pushCells (s₃.heap.push { cls := .type "dict", data := .dict #[] }) scope.names } :=
    h₄.perm rfl (fun p => by simp only [List.mem_append]; exact ⟨fun q => by rcases q with q | q | q <;> simp [q], fun q => by rcases q with q | q | q <;> simp [q]⟩) rfl rfl rfl
  have W' : WF TS n (c.more G) A (compEnv scope env s₃.heap.objs.size) := by
    obtain ⟨m, ⟨oL, es, ep, e1, _⟩, _⟩ := h₃'.ns
    have hL := Heap.lt_size e1
    refine W.enter h₃' hG nf W.room W.units (fun L hL' => Nat.le_trans (W.frl L hL') (Nat.le_of_lt hL)) rfl fun hfr => ?_
    exact absurd (Nat.le_trans (Nat.succ_le_of_lt hL) (W.frl _ hfr)) (Nat.not_succ_le_self _)
  have ok := iok.2 (c.more G) (compEnv scope env s₃.heap.objs.size) rfl fun a ha => by
    obtain ⟨⟨⟨f1, f2⟩, f3, f4⟩, flt⟩ := iok.1 a ha
    have flt' := Nat.lt_of_lt_of_le flt hsz
    refine ⟨⟨Nat.ne_of_lt flt', fun y hy => ?_⟩, f3, fun p hp => ?_⟩
    · rcases nf.cells y hy with hy | ⟨hv, _⟩
      · exact f2 y hy
      · exact Nat.ne_of_gt (Nat.lt_trans flt' hv)
    · rcases List.mem_append.mp hp with hp | hp
      · rcases (hG.all p hp).2 with z | ⟨y, hy, z⟩
        · rw [z]; exact Ne.symm f1
        · rw [← z]; exact f2 y hy
      · exact f4 p hp
  refine hloop (c.more G) _ _ W' ok h₅ (i₂.trans (Imm.of_keeps k)) q fun σ' s' r im q' => ?_
  have im' := (Imm.of_keeps k).trans im
  obtain ⟨m, n1, _⟩ := r.ns
  refine fin _ s' m (h₃'.leave hG r im') im' n1 ?_ q'
  cases z : σ'.heap s₃.heap.objs.size with
  | none => rfl
  | some o => exact absurd rfl (r.dom _ o z).2.1

/-- the names of a comprehension let go -/
theorem comp_gone {C : Addr} {h' : Heap} {m : Str → Option Value} (W : WF TS n c A env) {s₃ : Shared} {σ₃ : LS} (h₃ : Rel prog w c env σ₃ s₃) (hC : C = s₃.heap.objs.size) (r : Rel prog w c env σ s) (hn : s.heap.Ns C m) (ho : σ.heap C = none) (hs : Heap.SameBut C s.heap h') :
    Rel prog w c env σ { s with heap := h' } ∧ Imm s.heap h' := by
  subst hC
  have ni := notImm_ns hn
  exact ⟨r.extBut hs.extBut ni h₃.fresh_base h₃.fresh_loc h₃.fresh_G h₃.fresh_cell ho, Imm.of_extBut hs.extBut ni⟩

def BodyL (prog : Program) (w : World) (A : Around) (env : Env) (ifs : List Expr) (emit : (Shared → Prop) → Shared → Prop) (K : Shared → Prop) (s : Shared) : Prop :=
  wpAny (model prog w) A (forIn ifs true fun c r => if r = true then do let ok ← isTrue c env (eval c env); pure (ForInStep.yield ok) else pure (ForInStep.yield r)) (fun ok s₄ => if ok = true then emit K s₄ else K s₄) Fls s
def emitL (prog : Program) (w : World) (A : Around) (env : Env) (elt : Expr) (acc : Value) (K : Shared → Prop) (s : Shared) : Prop :=
  wpAny (model prog w) A (eval elt env) (fun x s₅ => wpAny (model prog w) A (call (.builtin "list.append") [acc, x]) (fun _ s₆ => K s₆) Fls s₅) Fls s

theorem step_list {elt tgt iter : Expr} {ifs : List Expr} {scope : Scope} {pos : Pos} {it acc : Value} (R : Result → Shared → Prop) (s : Shared)
    (h : wpAny (model prog w) A (pyNext it) (fun r s₁ => match r with
      | none => R (.ok .next) s₁
      | some v => wpAny (model prog w) A (letOwnedTupleGo tgt it v) (fun _ s₂ => wpAny (model prog w) A (assign tgt env v) (fun _ s₃ => BodyL prog w A env ifs (emitL prog w A env elt acc) (fun s₄ => codeAny (model prog w) A (.compLoop (.ListComp elt [⟨tgt, iter, ifs, 0⟩] scope pos) 0 it acc env) R s₄) s₃) Fls s₂) Fls s₁) Fls s) :
    codeAny (model prog w) A (.compLoop (.ListComp elt [⟨tgt, iter, ifs, 0⟩] scope pos) 0 it acc env) R s := by
  refine codeAny_of_tree ?_
  show wpAny _ A ((compTurn (.ListComp elt [⟨tgt, iter, ifs, 0⟩] scope pos) 0 it acc env).onRaise (fun x => do noteFrame x env; theTreesLotGoes x)) _ _ s
  refine wpAny_noted ?_
  rw [compTurn_list]
  refine wpAny_bind (wpAny_standAt (wpAny_bind (wpAny_mono h (fun r s₁ h₁ => ?_) fun _ _ x => x.elim)))
  cases r with
  | none => exact wpAny_pure h₁
  | some v =>
    refine wpAny_bind (wpAny_mono h₁ (fun _ s₂ h₂ => wpAny_bind (wpAny_mono h₂ (fun _ s₃ h₃ => wpAny_bind (wpAny_mono h₃ (fun ok s₄ h₄ => ?_) fun _ _ x => x.elim)) fun _ _ x => x.elim)) fun _ _ x => x.elim)
    cases ok with
    | false => exact wpAny_pure ⟨rfl, h₄⟩
    | true =>
      exact wpAny_bind (wpAny_bind (wpAny_mono h₄ (fun x s₅ h₅ => wpAny_bind (wpAny_mono h₅ (fun _ s₆ h₆ => wpAny_pure (wpAny_pure ⟨rfl, h₆⟩)) fun _ _ x => x.elim)) fun _ _ x => x.elim))

/-- the tests of a comprehension's for -/
def SimTests (prog : Program) (w : World) (TS : TopS) (n : Nat) (A : Around) (env : Env) (ifs : List Expr) (m : PTx Bool) : Prop :=
  Sim prog w TS n A env (forIn ifs true fun c r => if r = true then do let ok ← isTrue c env (eval c env); pure (ForInStep.yield ok) else pure (ForInStep.yield r)) REq m
theorem sim_tests_nil : SimTests prog w TS n A env [] (pret true) := fun c σ s W h Q E q => wpAny_tests_nil ⟨true, σ, rfl, h, Imm.refl _, q⟩
theorem sim_tests_one {e : Expr} {m : PTx Bool} (h : Sim prog w TS n A env (isTrue e env (eval e env)) REq m) : SimTests prog w TS n A env [e] m := fun c σ s W r Q E q => wpAny_tests_one (h c σ s W r Q E q)

abbrev pemit (me : PTx LV) (D : LV) : PTx Unit := pbind me fun v => pbind (plappend D [v]) fun _ => pret ()
abbrev pwhen (mt : PTx Bool) (m : PTx Unit) : PTx Unit := pbind mt fun b => fun Q E σ => if b = true then m Q E σ else Q () σ

theorem EPost.no {h0 : Heap} {v : Value} {s' : Shared} (p : EPost prog w c env h0 noE v s') : False := by
  obtain ⟨_, _, _, _, _, f⟩ := p; exact f

/-- what a turn does behind its tests -/
def SimEmit (prog : Program) (w : World) (TS : TopS) (n : Nat) (A : Around) (env : Env) (emit : (Shared → Prop) → Shared → Prop) (m : PTx Unit) : Prop :=
  ∀ c σ s, WF TS n c A env → Rel prog w c env σ s → ∀ (Q : Unit → LS → Prop) (K : Shared → Prop), m Q noE σ → (∀ f σ' s', Rel prog w c env σ' s' → Imm s.heap s'.heap → Q f σ' → K s') → emit K s
theorem emit_list {elt : Expr} {D : Nat} {me : PTx LV} (h : Sim prog w TS n A env (eval elt env) VRel me) : SimEmit prog w TS n A env (emitL prog w A env elt (.ref D)) (pemit me (.ref D)) := fun c σ s W r Q K q k => by
  refine wpAny_mono ((h c σ s W r).go (Imm.refl _) q (P := fun x s₅ => wpAny (model prog w) A (call (.builtin "list.append") [.ref D, x]) (fun _ s₆ => K s₆) Fls s₅) fun a x σ₁ s₁ ra h₁ i₁ j₁ q₁ => ?_) (fun _ _ x => x) fun _ _ x => x.no
  exact wpAny_mono ((sim_append c σ₁ s₁ (.ref D) (.ref D) [a] [x] W h₁ (.ref D) (.one ra)).go i₁ q₁ (P := fun _ s₆ => K s₆) fun b y σ₂ s₂ rb h₂ i₂ j₂ q₂ => k () σ₂ s₂ h₂ i₂ q₂) (fun _ _ x => x) fun _ _ x => x.no
theorem emit_when {ifs : List Expr} {emit : (Shared → Prop) → Shared → Prop} {mt : PTx Bool} {m : PTx Unit} (ht : SimTests prog w TS n A env ifs mt) (h : SimEmit prog w TS n A env emit m) : SimEmit prog w TS n A env (BodyL prog w A env ifs emit) (pwhen mt m) := fun c σ s W r Q K q k => by
  refine wpAny_mono ((ht c σ s W r).go (Imm.refl _) q (P := fun ok s₄ => if ok = true then emit K s₄ else K s₄) fun b x σ₁ s₁ rb h₁ i₁ j₁ q₁ => ?_) (fun _ _ x => x) fun _ _ x => x.no
  cases show b = x from rb
  cases b with
  | true =>
    simp only [if_true] at q₁ ⊢
    exact h c σ₁ s₁ W h₁ Q K q₁ fun f σ' s' r' i' q' => k f σ' s' r' (i₁.trans i') q'
  | false =>
    simp only [Bool.false_eq_true, if_false] at q₁ ⊢
    exact k () σ₁ s₁ h₁ i₁ q₁

theorem oList0 {h : Heap} (a : Addr) (e : h.get? a = some { cls := .type "list", data := .seq #[] }) : ORel prog w h a (.list []) := ⟨by decide, #[], 0, e, .nil⟩

/-- all that a list comprehension's turn needs -/
structure LComp (prog : Program) (w : World) (TS : TopS) (n : Nat) (A : Around) (env : Env) (scope : Scope) (tgt elt : Expr) (ifs : List Expr) (bind : LV → PTx Unit) (mt : PTx Bool) (me : PTx LV) : Prop where
  bind : ∀ C, Sim1 prog w TS n A (compEnv scope env C) (assign tgt (compEnv scope env C)) REq bind
  tests : ∀ C, SimTests prog w TS n A (compEnv scope env C) ifs mt
  elt : ∀ C, Sim prog w TS n A (compEnv scope env C) (eval elt (compEnv scope env C)) VRel me

/-- a list comprehension up to its end -/
theorem lcomp_go {tgt iter elt : Expr} {ifs : List Expr} {scope : Scope} {own : List String} {pos spos : Pos} {mi : PTx LIt} {bind : LV → PTx Unit} {mt : PTx Bool} {me : PTx LV} {use : Option (Value → Sem Unit)} {K : LV → LS → Prop} {E : LX → LS → Prop} {P : Value → Shared → Prop}
    (hok : compOk scope env own = true) (hs : ∀ x, foldedSetIterable iter env x = pure x) (hi : SimIt prog w TS n A env tgt iter mi) (L : LComp prog w TS n A env scope tgt elt ifs bind mt me) (W : WF TS n c A env) (h : Rel prog w c env σ s)
    (q : pcomp (.list []) mi own bind (fun D => pwhen mt (pemit me D)) K E σ)
    (fin : ∀ D C σ' s' m s₃ σ₃, Rel prog w c env σ₃ s₃ → C = s₃.heap.objs.size → Rel prog w c env σ' s' → Imm s.heap s'.heap → s'.heap.Ns C m → σ'.heap C = none → K (.ref D) σ' → compPost (model prog w) A (EPost prog w c env s.heap E) use P (.ref D) C (.ok .next) s') :
    wpAny (model prog w) A (comprehension (.ListComp elt [⟨tgt, iter, ifs, 0⟩] scope pos) scope env spos (newList []) false (eval iter env) use) P (EPost prog w c env s.heap E) s := by
  have F := compF hok
  refine wpAny_comprehension_free rfl hs (closure_of F) F.kind (fun x hx hl => by rw [F.uniq x hx, hl]) (wpAny_mono (hi c σ s W h _ E q) (fun x s₁ p => wpAny_mono p (fun it s₂ p => ?_) fun _ _ x => x) fun _ _ x => x)
  obtain ⟨St, addrs, ⟨items, g⟩, σ₁, O₀, iok, st₀, h₂, i₂, q₂⟩ := p
  dsimp only at iok q₂
  refine wpAny_newObj_type (newCompEnv ?_)
  have k : ∀ b o, s₂.heap.get? b = some o → (s₂.heap.push { cls := .type "list", dict := none, data := .seq ([] : List Value).toArray }).get? b = some o := fun b o e => Heap.get?_push_of_some _ e
  have h₃ := h₂.alloc (tk := s₂.toks) (o := .list []) k (oList0 _ (Heap.get?_push_size _ rfl))
  refine comp_core (s₂ := s₂) (s₃ := { s₂ with heap := s₂.heap.push { cls := .type "list", dict := none, data := .seq ([] : List Value).toArray } }) F W iok st₀ h₃ (Imm.of_keeps k) (by rw [Heap.size_push]; exact Nat.le_succ _) ?_ (q₂ s₂.heap.objs.size h₂.fresh_obj) ?_
  · intro c' σ₄ s₄ W' ok h₄ i₄ q₄ fin'
    have loop : codeAny (model prog w) A (.compLoop (.ListComp elt [⟨tgt, iter, ifs, 0⟩] scope pos) 0 it (.ref s₂.heap.objs.size) (compEnv scope env _)) _ s₄ :=
      comp_loop (fun R s => step_list R s) W' ok (L.bind _) (emit_when (L.tests _) (emit_list (L.elt _))) h₄ st₀ i₄ q₄ fun f σ' s' r' i' q' => fin' σ' s' r' i' q'
    exact codeAny_compStart_list loop (ok.self 0 O₀ σ₄ s₄ _ _ st₀ h₄ loop)
  · intro σ' s' m r' i' n' o' q'
    exact fin _ _ σ' s' m _ _ h₃.less rfl r' ((i₂.trans (Imm.of_keeps k)).trans i') n' o' q'

theorem sim_ListComp {tgt iter elt : Expr} {ifs : List Expr} {scope : Scope} {own : List String} {pos : Pos} {mi : PTx LIt} {bind : LV → PTx Unit} {mt : PTx Bool} {me : PTx LV}
    (hok : compOk scope env own = true) (hs : ∀ x, foldedSetIterable iter env x = pure x) (hi : SimIt prog w TS n A env tgt iter mi) (L : LComp prog w TS n A env scope tgt elt ifs bind mt me) :
    Sim prog w TS n A env (eval (.ListComp elt [⟨tgt, iter, ifs, 0⟩] scope pos) env) VRel (pcomp (.list []) mi own bind (fun D => pwhen mt (pemit me D))) := fun c σ s W h Q E q => by
  rw [eval_ListComp]
  refine lcomp_go (use := none) hok hs hi L W h q fun D C σ' s' m s₃ σ₃ h₃ hC r' i' n' o' q' => ?_
  refine ⟨m, n', fun h'' hs'' => ?_⟩
  obtain ⟨r, im⟩ := comp_gone W h₃ hC r' n' o' hs''
  exact ⟨_, σ', .ref D, r, i'.trans im, q'⟩

theorem Rel.addGuard {C : Addr} {o : Obj} (h : Rel prog w c env σ s) (e : s.heap.get? C = some o) (hσ : σ.heap C = none) : Rel prog w (c.more [(C, o)]) env σ s :=
  ⟨h.keep, fun p hp => (List.mem_append.mp hp).elim (fun q => by rw [List.mem_singleton.mp q]; exact ⟨o, e, rfl, rfl, fun _ => rfl⟩) (h.guard p), h.ns, h.cell, h.cin, h.obj,
    fun a lo ea => let ⟨a1, a2, a3, a4⟩ := h.dom a lo ea; ⟨a1, a2, fun p hp => (List.mem_append.mp hp).elim (fun q z => by rw [List.mem_singleton.mp q] at z; dsimp only at z; rw [z, ea] at hσ; cases hσ) (a3 p), a4⟩, h.gens, h.os, h.drawn⟩

/-- the value stored while the comprehension's names still stand -/
theorem used_go {C D : Addr} {y : String} {py : Pos} {m : Str → Option Value} {Q : LF → LS → Prop} {E : LX → LS → Prop} {h0 : Heap} {s₃ : Shared} {σ₃ : LS} (hk : StoreOk env y) (W : WF TS n c A env) (h₃ : Rel prog w c env σ₃ s₃) (hC : C = s₃.heap.objs.size) (r : Rel prog w c env σ s) (i : Imm h0 s.heap) (hn : s.heap.Ns C m) (ho : σ.heap C = none)
    (q : Q .next (σ.set y (.ref D))) : compPost (model prog w) A (EPost prog w c env h0 E) (some (assign (.Name (Str.ofString y) py) env)) (fun _ s' => Post prog w c env FlRel h0 Q .next s') (.ref D) C (.ok .next) s := by
  show wpAny _ A (assign (.Name (Str.ofString y) py) env (.ref D)) _ _ s
  obtain ⟨oC, es, ep, e1, e2, e3⟩ := hn
  have hfree : Free c env C := by subst hC; exact ⟨⟨h₃.fresh_loc, h₃.fresh_cell⟩, h₃.fresh_base, h₃.fresh_G⟩
  have W' : WF TS n (c.more [(C, oC)]) A env := W.more fun p hp => by rw [List.mem_singleton.mp hp]; exact hfree.1
  refine wpAny_assign_Name (wpAny_mono ((at_store hk W' (r.addGuard e1 ho) (.ref D)).go i (K := fun _ σ' => Q .next σ') (E := E) q (P := fun _ s'' => ∃ m, s''.heap.Ns C m ∧ ∀ h', Heap.SameBut C s''.heap h' → Post prog w c env FlRel h0 Q .next { s'' with heap := h' }) fun _ _ σ₅ s₅ _ h₅ i₅ j₅ q₅ => ?_) (fun _ _ x => x) fun _ _ x => x.less)
  obtain ⟨og, g, g1, g2, _⟩ := h₅.guard (C, oC) (List.mem_append_left _ (.head _))
  have hn₅ : s₅.heap.Ns C m := ⟨og, es, ep, g, g2.trans e2, e3⟩
  refine ⟨m, hn₅, fun h' hs => ?_⟩
  have ho₅ : σ₅.heap C = none := by
    cases z : σ₅.heap C with
    | none => rfl
    | some lo => exact absurd rfl ((h₅.dom C lo z).2.2.1 (C, oC) (List.mem_append_left _ (.head _)))
  obtain ⟨r', im⟩ := comp_gone W h₃ hC h₅.less hn₅ ho₅ hs
  exact ⟨_, σ₅, .next, r', i₅.trans im, q₅⟩

theorem sim_Assign_LComp {tgt iter elt : Expr} {ifs : List Expr} {scope : Scope} {own : List String} {pos spos py : Pos} {y : String} {mi : PTx LIt} {bind : LV → PTx Unit} {mt : PTx Bool} {me : PTx LV}
    (hk : StoreOk env y) (hsw : swapsWith (.ListComp elt [⟨tgt, iter, ifs, 0⟩] scope pos) (some (.Name (Str.ofString y) py)) spos.line env = pure true)
    (hok : compOk scope env own = true) (hs : ∀ x, foldedSetIterable iter env x = pure x) (hi : SimIt prog w TS n A env tgt iter mi) (L : LComp prog w TS n A env scope tgt elt ifs bind mt me) :
    Sim prog w TS n A env (exec (.Assign [.Name (Str.ofString y) py] (.ListComp elt [⟨tgt, iter, ifs, 0⟩] scope pos) spos) env) FlRel (pbind (pcomp (.list []) mi own bind (fun D => pwhen mt (pemit me D))) fun v => pbind (pset y v) fun _ => pret .next) := fun c σ s W h Q E q => by
  rw [exec_Assign_Name_used _ _ _ _ hsw]
  refine wpAny_bind (wpAny_standAt (wpAny_bind ?_))
  show wpAny _ A (do let _ ← comprehension (.ListComp elt [⟨tgt, iter, ifs, 0⟩] scope pos) scope env _ (newList []) false (eval iter env) (some (assign (.Name (Str.ofString y) py) env))) _ _ s
  refine wpAny_bind (wpAny_mono (lcomp_go (P := fun _ s' => Post prog w c env FlRel s.heap Q .next s') hok hs hi L W h q fun D C σ' s' m s₃ σ₃ h₃ hC r' i' n' o' q' => used_go hk W h₃ hC r' i' n' o' q') (fun _ s' hq => wpAny_pure (wpAny_pure hq)) fun _ _ e => e)

-- dict comprehensions
def emitD (prog : Program) (w : World) (A : Around) (env : Env) (kx vx : Expr) (D : Addr) (K : Shared → Prop) (s : Shared) : Prop :=
  wpAny (model prog w) A (eval kx env) (fun k s₁ => wpAny (model prog w) A (eval vx env) (fun v s₂ => wpAny (model prog w) A (dictSet D k v) (fun _ s₃ => K s₃) Fls s₂) Fls s₁) Fls s
theorem step_dict {kx vx tgt iter : Expr} {ifs : List Expr} {scope : Scope} {pos : Pos} {it : Value} {D : Addr} (R : Result → Shared → Prop) (s : Shared)
    (h : wpAny (model prog w) A (pyNext it) (fun r s₁ => match r with
      | none => R (.ok .next) s₁
      | some v => wpAny (model prog w) A (letOwnedTupleGo tgt it v) (fun _ s₂ => wpAny (model prog w) A (assign tgt env v) (fun _ s₃ => BodyL prog w A env ifs (emitD prog w A env kx vx D) (fun s₄ => codeAny (model prog w) A (.compLoop (.DictComp kx vx [⟨tgt, iter, ifs, 0⟩] scope pos) 0 it (.ref D) env) R s₄) s₃) Fls s₂) Fls s₁) Fls s) :
    codeAny (model prog w) A (.compLoop (.DictComp kx vx [⟨tgt, iter, ifs, 0⟩] scope pos) 0 it (.ref D) env) R s := by
  refine codeAny_of_tree ?_
  show wpAny _ A ((compTurn (.DictComp kx vx [⟨tgt, iter, ifs, 0⟩] scope pos) 0 it (.ref D) env).onRaise (fun x => do noteFrame x env; theTreesLotGoes x)) _ _ s
  refine wpAny_noted ?_
  rw [compTurn_dict]
  refine wpAny_bind (wpAny_standAt (wpAny_bind (wpAny_mono h (fun r s₁ h₁ => ?_) fun _ _ x => x.elim)))
  cases r with
  | none => exact wpAny_pure h₁
  | some v =>
    refine wpAny_bind (wpAny_mono h₁ (fun _ s₂ h₂ => wpAny_bind (wpAny_mono h₂ (fun _ s₃ h₃ => wpAny_bind (wpAny_mono h₃ (fun ok s₄ h₄ => ?_) fun _ _ x => x.elim)) fun _ _ x => x.elim)) fun _ _ x => x.elim)
    cases ok with
    | false => exact wpAny_pure ⟨rfl, h₄⟩
    | true =>
      refine wpAny_bind (wpAny_bind (wpAny_mono h₄ (fun x s₅ h₅ => wpAny_bind (wpAny_holding (wpAny_mono h₅ (fun y s₆ h₆ => wpAny_bind (wpAny_standAt (wpAny_holding (wpAny_mono h₆ (fun _ s₇ h₇ => wpAny_pure ⟨rfl, h₇⟩) fun _ _ x => x.elim)))) fun _ _ x => x.elim))) fun _ _ x => x.elim))
end
end Mine
end
noncomputable section
open PySem PySem.W PyProof.Rows PySem.Calls PySem.SeqAt
set_option Elab.async false
set_option linter.unusedVariables false
set_option linter.unusedSimpArgs false
namespace Mine
abbrev pemitD (mk mv : PTx LV) (D : LV) : PTx Unit := pbind mk fun k => pbind mv fun v => pdset D k v
section
variable {prog : Program} {w : World} {TS : TopS} {c : Cx} {A : Around} {env : Env} {σ : LS} {s : Shared} {n : Nat}

theorem emit_dict {kx vx : Expr} {D : Nat} {mk mv : PTx LV} (hk : Sim prog w TS n A env (eval kx env) VRel mk) (hv : Sim prog w TS n A env (eval vx env) VRel mv) : SimEmit prog w TS n A env (emitD prog w A env kx vx D) (pemitD mk mv (.ref D)) := fun c σ s W r Q K q k => by
  refine wpAny_mono ((hk c σ s W r).go (Imm.refl _) q (P := fun k s₁ => wpAny (model prog w) A (eval vx env) (fun v s₂ => wpAny (model prog w) A (dictSet D k v) (fun _ s₃ => K s₃) Fls s₂) Fls s₁) fun a x σ₁ s₁ ra h₁ i₁ j₁ q₁ => ?_) (fun _ _ x => x) fun _ _ x => x.no
  refine wpAny_mono ((hv c σ₁ s₁ W h₁).go i₁ q₁ (P := fun v s₂ => wpAny (model prog w) A (dictSet D x v) (fun _ s₃ => K s₃) Fls s₂) fun b y σ₂ s₂ rb h₂ i₂ j₂ q₂ => ?_) (fun _ _ x => x) fun _ _ x => x.no
  have ra := ra.imm j₂
  cases a with
  | int kk =>
    obtain ⟨es, ep, e, hk, q⟩ := q₂
    obtain ⟨t, rfl⟩ := ra.int_inv
    obtain ⟨hz, kvs, d1, r1⟩ := h₂.dict_at e
    have hl := r1.length
    have := cap_le
    refine wpAny_dictSet_pairs (int_is _ _) d1 (fun h' hd hs => ?_) (by omega)
    have im := h₂.update_imm e hs.extBut
    obtain ⟨ep', hd'⟩ := hd.dictAt
    exact k () _ _ (h₂.update (o' := .dict _ ep') e hs.extBut ⟨Nat.le_trans (dput_length ..) hk, _, hd', (r1.put rb).imm im⟩) (i₂.trans im) (q ep')
  | _ => exact q₂.elim

structure DComp (prog : Program) (w : World) (TS : TopS) (n : Nat) (A : Around) (env : Env) (scope : Scope) (tgt kx vx : Expr) (ifs : List Expr) (bind : LV → PTx Unit) (mt : PTx Bool) (mk mv : PTx LV) : Prop where
  bind : ∀ C, Sim1 prog w TS n A (compEnv scope env C) (assign tgt (compEnv scope env C)) REq bind
  tests : ∀ C, SimTests prog w TS n A (compEnv scope env C) ifs mt
  key : ∀ C, Sim prog w TS n A (compEnv scope env C) (eval kx (compEnv scope env C)) VRel mk
  val : ∀ C, Sim prog w TS n A (compEnv scope env C) (eval vx (compEnv scope env C)) VRel mv

theorem dcomp_go {tgt iter kx vx : Expr} {ifs : List Expr} {scope : Scope} {own : List String} {pos spos : Pos} {mi : PTx LIt} {bind : LV → PTx Unit} {mt : PTx Bool} {mk mv : PTx LV} {use : Option (Value → Sem Unit)} {K : LV → LS → Prop} {E : LX → LS → Prop} {P : Value → Shared → Prop}
    (hok : compOk scope env own = true) (hs : ∀ x, foldedSetIterable iter env x = pure x) (hi : SimIt prog w TS n A env tgt iter mi) (L : DComp prog w TS n A env scope tgt kx vx ifs bind mt mk mv) (W : WF TS n c A env) (h : Rel prog w c env σ s)
    (q : pcomp (.dict [] 0) mi own bind (fun D => pwhen mt (pemitD mk mv D)) K E σ)
    (fin : ∀ D C σ' s' m s₃ σ₃, Rel prog w c env σ₃ s₃ → C = s₃.heap.objs.size → Rel prog w c env σ' s' → Imm s.heap s'.heap → s'.heap.Ns C m → σ'.heap C = none → K (.ref D) σ' → compPost (model prog w) A (EPost prog w c env s.heap E) use P (.ref D) C (.ok .next) s') :
    wpAny (model prog w) A (comprehension (.DictComp kx vx [⟨tgt, iter, ifs, 0⟩] scope pos) scope env spos newDict false (eval iter env) use) P (EPost prog w c env s.heap E) s := by
  have F := compF hok
  refine wpAny_comprehension_free rfl hs (closure_of F) F.kind (fun x hx hl => by rw [F.uniq x hx, hl]) (wpAny_mono (hi c σ s W h _ E q) (fun x s₁ p => wpAny_mono p (fun it s₂ p => ?_) fun _ _ x => x) fun _ _ x => x)
  obtain ⟨St, addrs, ⟨items, g⟩, σ₁, O₀, iok, st₀, h₂, i₂, q₂⟩ := p
  dsimp only at iok q₂
  refine wpAny_newObj_type (newCompEnv ?_)
  have k : ∀ b o, s₂.heap.get? b = some o → (s₂.heap.push { cls := .type "dict", dict := none, data := .dict #[] }).get? b = some o := fun b o e => Heap.get?_push_of_some _ e
  have h₃ := h₂.alloc (tk := s₂.toks) (o := .dict [] 0) k ⟨Nat.zero_le _, [], ⟨_, #[], Heap.get?_push_size _ rfl, ⟨rfl, rfl, rfl⟩, rfl, fun _ he => by simp at he, Pairs.nil, List.nodup_nil⟩, .nil⟩
  refine comp_core (s₂ := s₂) (s₃ := { s₂ with heap := s₂.heap.push { cls := .type "dict", dict := none, data := .dict #[] } }) F W iok st₀ h₃ (Imm.of_keeps k) (by rw [Heap.size_push]; exact Nat.le_succ _) ?_ (q₂ s₂.heap.objs.size h₂.fresh_obj) ?_
  · intro c' σ₄ s₄ W' ok h₄ i₄ q₄ fin'
    have loop : codeAny (model prog w) A (.compLoop (.DictComp kx vx [⟨tgt, iter, ifs, 0⟩] scope pos) 0 it (.ref s₂.heap.objs.size) (compEnv scope env _)) _ s₄ :=
      comp_loop (fun R s => step_dict R s) W' ok (L.bind _) (emit_when (L.tests _) (emit_dict (L.key _) (L.val _))) h₄ st₀ i₄ q₄ fun f σ' s' r' i' q' => fin' σ' s' r' i' q'
    exact codeAny_compStart_dict loop (ok.self 0 O₀ σ₄ s₄ _ _ st₀ h₄ loop)
  · intro σ' s' m r' i' n' o' q'
    exact fin _ _ σ' s' m _ _ h₃.less rfl r' ((i₂.trans (Imm.of_keeps k)).trans i') n' o' q'
theorem sim_Assign_DComp {tgt iter kx vx : Expr} {ifs : List Expr} {scope : Scope} {own : List String} {pos spos py : Pos} {y : String} {mi : PTx LIt} {bind : LV → PTx Unit} {mt : PTx Bool} {mk mv : PTx LV}
    (hk : StoreOk env y) (hsw : swapsWith (.DictComp kx vx [⟨tgt, iter, ifs, 0⟩] scope pos) (some (.Name (Str.ofString y) py)) spos.line env = pure true)
    (hok : compOk scope env own = true) (hs : ∀ x, foldedSetIterable iter env x = pure x) (hi : SimIt prog w TS n A env tgt iter mi) (L : DComp prog w TS n A env scope tgt kx vx ifs bind mt mk mv) :
    Sim prog w TS n A env (exec (.Assign [.Name (Str.ofString y) py] (.DictComp kx vx [⟨tgt, iter, ifs, 0⟩] scope pos) spos) env) FlRel (pbind (pcomp (.dict [] 0) mi own bind (fun D => pwhen mt (pemitD mk mv D))) fun v => pbind (pset y v) fun _ => pret .next) := fun c σ s W h Q E q => by
  rw [exec_Assign_Name_used _ _ _ _ hsw]
  refine wpAny_bind (wpAny_standAt (wpAny_bind ?_))
  show wpAny _ A (do let _ ← comprehension (.DictComp kx vx [⟨tgt, iter, ifs, 0⟩] scope pos) scope env _ newDict false (eval iter env) (some (assign (.Name (Str.ofString y) py) env))) _ _ s
  refine wpAny_bind (wpAny_mono (dcomp_go (P := fun _ s' => Post prog w c env FlRel s.heap Q .next s') hok hs hi L W h q fun D C σ' s' m s₃ σ₃ h₃ hC r' i' n' o' q' => used_go hk W h₃ hC r' i' n' o' q') (fun _ s' hq => wpAny_pure (wpAny_pure hq)) fun _ _ e => e)

-- two for's
theorem compTurn_two (elt t1 i1 t2 i2 : Expr) (ifs1 ifs2 : List Expr) (scope : Scope) (pos : Pos) (it acc : Value) (env : Env) :
    compTurn (.ListComp elt [⟨t1, i1, ifs1, 0⟩, ⟨t2, i2, ifs2, 0⟩] scope pos) 0 it acc env = (do
      standAt i1.pos
      match ← pyNext it with
      | none => pure (.done .next)
      | some v =>
        letOwnedTupleGo t1 it v
        assign t1 env v
        let mut ok := true
        for c in ifs1 do
          if ok then ok ← isTrue c env (eval c env)
        if ok then
          let x ← eval i2 env
          standAt i2.pos
          let x ← foldedSetIterable i2 env x
          let _ ← runOwn (.compStart (.ListComp elt [⟨t1, i1, ifs1, 0⟩, ⟨t2, i2, ifs2, 0⟩] scope pos) 1 (← holding [x] (pyIter x)) acc env) env
        again (.compLoop (.ListComp elt [⟨t1, i1, ifs1, 0⟩, ⟨t2, i2, ifs2, 0⟩] scope pos) 0 it acc env)) := by rfl
theorem compTurn_two1 (elt t1 i1 t2 i2 : Expr) (ifs1 ifs2 : List Expr) (scope : Scope) (pos : Pos) (it acc : Value) (env : Env) :
    compTurn (.ListComp elt [⟨t1, i1, ifs1, 0⟩, ⟨t2, i2, ifs2, 0⟩] scope pos) 1 it acc env = (do
      standAt i2.pos
      match ← pyNext it with
      | none => pure (.done .next)
      | some v =>
        letOwnedTupleGo t2 it v
        assign t2 env v
        let mut ok := true
        for c in ifs2 do
          if ok then ok ← isTrue c env (eval c env)
        if ok then
          (do let _ ← call (.builtin "list.append") [acc, ← eval elt env])
        again (.compLoop (.ListComp elt [⟨t1, i1, ifs1, 0⟩, ⟨t2, i2, ifs2, 0⟩] scope pos) 1 it acc env)) := by rfl

abbrev two (elt t1 i1 t2 i2 : Expr) (ifs1 ifs2 : List Expr) (scope : Scope) (pos : Pos) : Expr := .ListComp elt [⟨t1, i1, ifs1, 0⟩, ⟨t2, i2, ifs2, 0⟩] scope pos
def emit2 (prog : Program) (w : World) (A : Around) (env : Env) (e i2 : Expr) (acc : Value) (K : Shared → Prop) (s : Shared) : Prop :=
  wpAny (model prog w) A (eval i2 env) (fun x s₁ => wpAny (model prog w) A (pyIter x) (fun it s₂ => codeAny (model prog w) A (.compStart e 1 it acc env) (fun r s' => match r with | .ok _ => K s' | .error _ => False) s₂) Fls s₁) Fls s
theorem step_two {elt t1 i1 t2 i2 : Expr} {ifs1 ifs2 : List Expr} {scope : Scope} {pos : Pos} {it acc : Value} (hs : ∀ x, foldedSetIterable i2 env x = pure x) (R : Result → Shared → Prop) (s : Shared)
    (h : wpAny (model prog w) A (pyNext it) (fun r s₁ => match r with
      | none => R (.ok .next) s₁
      | some v => wpAny (model prog w) A (letOwnedTupleGo t1 it v) (fun _ s₂ => wpAny (model prog w) A (assign t1 env v) (fun _ s₃ => BodyL prog w A env ifs1 (emit2 prog w A env (two elt t1 i1 t2 i2 ifs1 ifs2 scope pos) i2 acc) (fun s₄ => codeAny (model prog w) A (.compLoop (two elt t1 i1 t2 i2 ifs1 ifs2 scope pos) 0 it acc env) R s₄) s₃) Fls s₂) Fls s₁) Fls s) :
    codeAny (model prog w) A (.compLoop (two elt t1 i1 t2 i2 ifs1 ifs2 scope pos) 0 it acc env) R s := by
  refine codeAny_of_tree ?_
  show wpAny _ A ((compTurn (.ListComp elt [⟨t1, i1, ifs1, 0⟩, ⟨t2, i2, ifs2, 0⟩] scope pos) 0 it acc env).onRaise (fun x => do noteFrame x env; theTreesLotGoes x)) _ _ s
  refine wpAny_noted ?_
  rw [compTurn_two]
  refine wpAny_bind (wpAny_standAt (wpAny_bind (wpAny_mono h (fun r s₁ h₁ => ?_) fun _ _ x => x.elim)))
  cases r with
  | none => exact wpAny_pure h₁
  | some v =>
    refine wpAny_bind (wpAny_mono h₁ (fun _ s₂ h₂ => wpAny_bind (wpAny_mono h₂ (fun _ s₃ h₃ => wpAny_bind (wpAny_mono h₃ (fun ok s₄ h₄ => ?_) fun _ _ x => x.elim)) fun _ _ x => x.elim)) fun _ _ x => x.elim)
    cases ok with
    | false => exact wpAny_pure ⟨rfl, h₄⟩
    | true =>
      refine wpAny_bind (wpAny_mono h₄ (fun x s₅ h₅ => wpAny_bind (wpAny_standAt (wpAny_bind (wpAny_of_eq (hs x) (wpAny_bind (wpAny_holding (wpAny_mono h₅ (fun it' s₆ h₆ => wpAny_bind (wpAny_runOwn (codeAny_mono h₆ fun r s₇ h₇ => ?_))) fun _ _ x => x.elim))))))) fun _ _ x => x.elim)
      cases r with
      | ok f => exact wpAny_pure ⟨rfl, h₇⟩
      | error e => exact h₇.elim
theorem step_two1 {elt t1 i1 t2 i2 : Expr} {ifs1 ifs2 : List Expr} {scope : Scope} {pos : Pos} {it acc : Value} (R : Result → Shared → Prop) (s : Shared)
    (h : wpAny (model prog w) A (pyNext it) (fun r s₁ => match r with
      | none => R (.ok .next) s₁
      | some v => wpAny (model prog w) A (letOwnedTupleGo t2 it v) (fun _ s₂ => wpAny (model prog w) A (assign t2 env v) (fun _ s₃ => BodyL prog w A env ifs2 (emitL prog w A env elt acc) (fun s₄ => codeAny (model prog w) A (.compLoop (two elt t1 i1 t2 i2 ifs1 ifs2 scope pos) 1 it acc env) R s₄) s₃) Fls s₂) Fls s₁) Fls s) :
    codeAny (model prog w) A (.compLoop (two elt t1 i1 t2 i2 ifs1 ifs2 scope pos) 1 it acc env) R s := by
  refine codeAny_of_tree ?_
  show wpAny _ A ((compTurn (.ListComp elt [⟨t1, i1, ifs1, 0⟩, ⟨t2, i2, ifs2, 0⟩] scope pos) 1 it acc env).onRaise (fun x => do noteFrame x env; theTreesLotGoes x)) _ _ s
  refine wpAny_noted ?_
  rw [compTurn_two1]
  refine wpAny_bind (wpAny_standAt (wpAny_bind (wpAny_mono h (fun r s₁ h₁ => ?_) fun _ _ x => x.elim)))
  cases r with
  | none => exact wpAny_pure h₁
  | some v =>
    refine wpAny_bind (wpAny_mono h₁ (fun _ s₂ h₂ => wpAny_bind (wpAny_mono h₂ (fun _ s₃ h₃ => wpAny_bind (wpAny_mono h₃ (fun ok s₄ h₄ => ?_) fun _ _ x => x.elim)) fun _ _ x => x.elim)) fun _ _ x => x.elim)
    cases ok with
    | false => exact wpAny_pure ⟨rfl, h₄⟩
    | true =>
      exact wpAny_bind (wpAny_bind (wpAny_mono h₄ (fun x s₅ h₅ => wpAny_bind (wpAny_mono h₅ (fun _ s₆ h₆ => wpAny_pure (wpAny_pure ⟨rfl, h₆⟩)) fun _ _ x => x.elim)) fun _ _ x => x.elim))
theorem start_two1 {elt t1 i1 t2 i2 : Expr} {ifs1 ifs2 : List Expr} {scope : Scope} {pos : Pos} {it acc : Value} {R : Result → Shared → Prop}
    (h0 : codeAny (model prog w) A (.compLoop (two elt t1 i1 t2 i2 ifs1 ifs2 scope pos) 1 it acc env) R s)
    (h : wpAny (model prog w) A (pyIter it) (fun it' s' => codeAny (model prog w) A (.compLoop (two elt t1 i1 t2 i2 ifs1 ifs2 scope pos) 1 it' acc env) R s') Fls s) :
    codeAny (model prog w) A (.compStart (two elt t1 i1 t2 i2 ifs1 ifs2 scope pos) 1 it acc env) R s := by
  refine codeAny_of_tree ?_
  show wpAny _ _ ((compStart (.ListComp elt [⟨t1, i1, ifs1, 0⟩, ⟨t2, i2, ifs2, 0⟩] scope pos) 1 it acc env).onRaise (fun x => do noteFrame x env; standAt theWindowsPlace)) _ _ s
  refine wpAny_notedAt ?_
  unfold compStart
  show wpAny _ _ (ask >>= _) _ _ s
  refine wpAny_bind (wpAny_askSetting (wpAny_ite ?_))
  split
  · first
      | exact wpAny_bind (wpAny_pure (wpAny_pure (And.intro rfl h0)))
      | exact wpAny_pure (And.intro rfl h0)
  · first
      | exact wpAny_bind (wpAny_rule (wpAny_bind (wpAny_standAt (wpAny_bind (wpAny_mono h (fun it' s' h' => wpAny_pure (And.intro rfl h')) fun _ _ x => x.elim)))))
      | (refine wpAny_bind (wpAny_rule ?_); show wpAny _ _ (standAt i2.pos >>= _) _ _ s; exact wpAny_bind (wpAny_standAt (wpAny_bind (wpAny_mono h (fun it' s' h' => wpAny_pure (And.intro rfl h')) fun _ _ x => x.elim))))

abbrev pcomp2 (mi : PTx LIt) (bind : LV → PTx Unit) (body : PTx Unit) : PTx Unit := fun Q E σ => mi (fun r σ' => pcompL r.2 bind body r.1 Q E σ') E σ
theorem emit_two {elt t1 i1 t2 i2 : Expr} {ifs1 ifs2 : List Expr} {scope : Scope} {pos : Pos} {D : Nat} {mi : PTx LIt} {bind : LV → PTx Unit} {mt : PTx Bool} {me : PTx LV}
    (hi : SimIt prog w TS n A env t2 i2 mi) (hb : Sim1 prog w TS n A env (assign t2 env) REq bind) (ht : SimTests prog w TS n A env ifs2 mt) (he : Sim prog w TS n A env (eval elt env) VRel me) :
    SimEmit prog w TS n A env (emit2 prog w A env (two elt t1 i1 t2 i2 ifs1 ifs2 scope pos) i2 (.ref D)) (pcomp2 mi bind (pwhen mt (pemit me (.ref D)))) := fun c σ s W r Q K q k => by
  refine wpAny_mono (hi c σ s W r _ noE q) (fun x s₁ p => wpAny_mono p (fun it s₂ p => ?_) fun _ _ x => x.no) fun _ _ x => x.no
  obtain ⟨St, addrs, ⟨items, g⟩, σ₁, O₀, iok, st₀, h₂, i₂, q₂⟩ := p
  dsimp only at iok q₂
  have loop : codeAny (model prog w) A (.compLoop (two elt t1 i1 t2 i2 ifs1 ifs2 scope pos) 1 it (.ref D) env) (fun r s' => match r with | .ok _ => K s' | .error _ => False) s₂ :=
    comp_loop (fun R s => step_two1 R s) W iok.own hb (emit_when ht (emit_list he)) h₂ st₀ (Imm.refl _) q₂ fun f σ' s' r' i' q' => k f σ' s' r' (i₂.trans i') q'
  exact start_two1 loop (iok.own.self 0 O₀ σ₁ s₂ _ _ st₀ h₂ loop)

/-- all that a list comprehension with two for's needs -/
structure LComp2 (prog : Program) (w : World) (TS : TopS) (n : Nat) (A : Around) (env : Env) (scope : Scope) (t1 t2 i2 elt : Expr) (ifs1 ifs2 : List Expr) (bind1 bind2 : LV → PTx Unit) (mt1 mt2 : PTx Bool) (mi2 : PTx LIt) (me : PTx LV) : Prop where
  bind1 : ∀ C, Sim1 prog w TS n A (compEnv scope env C) (assign t1 (compEnv scope env C)) REq bind1
  tests1 : ∀ C, SimTests prog w TS n A (compEnv scope env C) ifs1 mt1
  it2 : ∀ C, SimIt prog w TS n A (compEnv scope env C) t2 i2 mi2
  fold : ∀ C x, foldedSetIterable i2 (compEnv scope env C) x = pure x
  bind2 : ∀ C, Sim1 prog w TS n A (compEnv scope env C) (assign t2 (compEnv scope env C)) REq bind2
  tests2 : ∀ C, SimTests prog w TS n A (compEnv scope env C) ifs2 mt2
  elt : ∀ C, Sim prog w TS n A (compEnv scope env C) (eval elt (compEnv scope env C)) VRel me
theorem lcomp2_go {t1 i1 t2 i2 elt : Expr} {ifs1 ifs2 : List Expr} {scope : Scope} {own : List String} {pos spos : Pos} {mi mi2 : PTx LIt} {bind1 bind2 : LV → PTx Unit} {mt1 mt2 : PTx Bool} {me : PTx LV} {use : Option (Value → Sem Unit)} {K : LV → LS → Prop} {E : LX → LS → Prop} {P : Value → Shared → Prop}
    (hok : compOk scope env own = true) (hs : ∀ x, foldedSetIterable i1 env x = pure x) (hi : SimIt prog w TS n A env t1 i1 mi) (L : LComp2 prog w TS n A env scope t1 t2 i2 elt ifs1 ifs2 bind1 bind2 mt1 mt2 mi2 me) (W : WF TS n c A env) (h : Rel prog w c env σ s)
    (q : pcomp (.list []) mi own bind1 (fun D => pwhen mt1 (pcomp2 mi2 bind2 (pwhen mt2 (pemit me D)))) K E σ)
    (fin : ∀ D C σ' s' m s₃ σ₃, Rel prog w c env σ₃ s₃ → C = s₃.heap.objs.size → Rel prog w c env σ' s' → Imm s.heap s'.heap → s'.heap.Ns C m → σ'.heap C = none → K (.ref D) σ' → compPost (model prog w) A (EPost prog w c env s.heap E) use P (.ref D) C (.ok .next) s') :
    wpAny (model prog w) A (comprehension (two elt t1 i1 t2 i2 ifs1 ifs2 scope pos) scope env spos (newList []) false (eval i1 env) use) P (EPost prog w c env s.heap E) s := by
  have F := compF hok
  refine wpAny_comprehension_free rfl hs (closure_of F) F.kind (fun x hx hl => by rw [F.uniq x hx, hl]) (wpAny_mono (hi c σ s W h _ E q) (fun x s₁ p => wpAny_mono p (fun it s₂ p => ?_) fun _ _ x => x) fun _ _ x => x)
  obtain ⟨St, addrs, ⟨items, g⟩, σ₁, O₀, iok, st₀, h₂, i₂, q₂⟩ := p
  dsimp only at iok q₂
  refine wpAny_newObj_type (newCompEnv ?_)
  have k : ∀ b o, s₂.heap.get? b = some o → (s₂.heap.push { cls := .type "list", dict := none, data := .seq ([] : List Value).toArray }).get? b = some o := fun b o e => Heap.get?_push_of_some _ e
  have h₃ := h₂.alloc (tk := s₂.toks) (o := .list []) k (oList0 _ (Heap.get?_push_size _ rfl))
  refine comp_core (s₂ := s₂) (s₃ := { s₂ with heap := s₂.heap.push { cls := .type "list", dict := none, data := .seq ([] : List Value).toArray } }) F W iok st₀ h₃ (Imm.of_keeps k) (by rw [Heap.size_push]; exact Nat.le_succ _) ?_ (q₂ s₂.heap.objs.size h₂.fresh_obj) ?_
  · intro c' σ₄ s₄ W' ok h₄ i₄ q₄ fin'
    have loop : codeAny (model prog w) A (.compLoop (two elt t1 i1 t2 i2 ifs1 ifs2 scope pos) 0 it (.ref s₂.heap.objs.size) (compEnv scope env _)) _ s₄ :=
      comp_loop (fun R s => step_two (L.fold _) R s) W' ok (L.bind1 _) (emit_when (L.tests1 _) (emit_two (L.it2 _) (L.bind2 _) (L.tests2 _) (L.elt _))) h₄ st₀ i₄ q₄ fun f σ' s' r' i' q' => fin' σ' s' r' i' q'
    exact codeAny_compStart_list loop (ok.self 0 O₀ σ₄ s₄ _ _ st₀ h₄ loop)
  · intro σ' s' m r' i' n' o' q'
    exact fin _ _ σ' s' m _ _ h₃.less rfl r' ((i₂.trans (Imm.of_keeps k)).trans i') n' o' q'
theorem sim_Assign_Comp2 {t1 i1 t2 i2 elt : Expr} {ifs1 ifs2 : List Expr} {scope : Scope} {own : List String} {pos spos py : Pos} {y : String} {mi mi2 : PTx LIt} {bind1 bind2 : LV → PTx Unit} {mt1 mt2 : PTx Bool} {me : PTx LV}
    (hk : StoreOk env y) (hsw : swapsWith (two elt t1 i1 t2 i2 ifs1 ifs2 scope pos) (some (.Name (Str.ofString y) py)) spos.line env = pure true)
    (hok : compOk scope env own = true) (hs : ∀ x, foldedSetIterable i1 env x = pure x) (hi : SimIt prog w TS n A env t1 i1 mi) (L : LComp2 prog w TS n A env scope t1 t2 i2 elt ifs1 ifs2 bind1 bind2 mt1 mt2 mi2 me) :
    Sim prog w TS n A env (exec (.Assign [.Name (Str.ofString y) py] (two elt t1 i1 t2 i2 ifs1 ifs2 scope pos) spos) env) FlRel (pbind (pcomp (.list []) mi own bind1 (fun D => pwhen mt1 (pcomp2 mi2 bind2 (pwhen mt2 (pemit me D))))) fun v => pbind (pset y v) fun _ => pret .next) := fun c σ s W h Q E q => by
  rw [exec_Assign_Name_used _ _ _ _ hsw]
  refine wpAny_bind (wpAny_standAt (wpAny_bind ?_))
  show wpAny _ A (do let _ ← comprehension (two elt t1 i1 t2 i2 ifs1 ifs2 scope pos) scope env _ (newList []) false (eval i1 env) (some (assign (.Name (Str.ofString y) py) env))) _ _ s
  refine wpAny_bind (wpAny_mono (lcomp2_go (P := fun _ s' => Post prog w c env FlRel s.heap Q .next s') hok hs hi L W h q fun D C σ' s' m s₃ σ₃ h₃ hC r' i' n' o' q' => used_go hk W h₃ hC r' i' n' o' q') (fun _ s' hq => wpAny_pure (wpAny_pure hq)) fun _ _ e => e)
end
end Mine
end
noncomputable section
open PySem PySem.W PyProof.Rows PySem.Calls PySem.SeqAt
set_option Elab.async false
set_option linter.unusedVariables false
set_option linter.unusedSimpArgs false
namespace Mine

def fenv (scope : Scope) (L : Addr) (q : Str) (f : Addr) (cd : Value) : Env :=
  { scope := scope, locals := L, globals := mainGlobals, cells := cellsFrom (L + 1) scope.names [], qual := q, func := some f, code := cd, frame := some L, builtins := builtinsNs }

def bindLoc : List (String × LV) → (String → Option LV) → String → Option LV
  | [], m => m
  | (n, v) :: r, m => bindLoc r fun y => if y = n then some v else m y
abbrev pdef (bnd : List LV → Option (List (String × LV))) (mb : PTx LF) : List LV → PTx LV := fun as Q _ σ =>
  ∃ bs, bnd as = some bs ∧ mb (fun fl σ' => match fl with | .ret v => Q v ⟨σ.loc, σ'.heap⟩ | .next => Q .none ⟨σ.loc, σ'.heap⟩ | _ => False) noE ⟨bindLoc bs fun _ => none, σ.heap⟩
inductive BRel (h : Heap) : List (String × LV) → List (Str × Value) → Prop
  | nil : BRel h [] []
  | cons {n : String} {a : LV} {v : Value} {bs : List (String × LV)} {vs : List (Str × Value)} : VRel h a v → BRel h bs vs → BRel h ((n, a) :: bs) ((Str.ofString n, v) :: vs)
theorem BRel.imm {h h' : Heap} (k : Imm h h') {bs vs} (r : BRel h bs vs) : BRel h' bs vs := by
  induction r with
  | nil => exact .nil
  | cons x _ ih => exact .cons (x.imm k) ih
theorem BRel.names {h : Heap} {bs vs} (r : BRel h bs vs) : ∀ y ∈ vs, ∃ b ∈ bs, y.1 = Str.ofString b.1 := by
  induction r with
  | nil => exact fun _ hy => nomatch hy
  | @cons n a _ _ _ x _ ih =>
    intro y hy
    rcases List.mem_cons.mp hy with rfl | hy
    · exact ⟨(n, a), .head _, rfl⟩
    · obtain ⟨b, h1, h2⟩ := ih y hy; exact ⟨b, .tail _ h1, h2⟩
theorem bind_local {h : Heap} {kindOf : Str → Option NameKind} {bs vs} (r : BRel h bs vs) {l : String → Option LV} {m : Str → Option Value} (hm : ∀ x : String, kindOf (Str.ofString x) = some .local → OV h (l x) (m (Str.ofString x)))
    (x : String) (hx : kindOf (Str.ofString x) = some .local) : OV h (bindLoc bs l x) (bindL kindOf vs m (Str.ofString x)) := by
  induction r generalizing l m with
  | nil => exact hm x hx
  | @cons n a v _ _ y _ ih =>
    refine ih (fun z hz => ?_)
    by_cases q : z = n
    · subst q; rw [if_pos hz]; simp; exact y
    · rw [if_neg q]
      have q' : ¬ Str.ofString z = Str.ofString n := fun e => q (ofString_inj.mp e)
      split
      · dsimp only; rw [if_neg q']; exact hm z hz
      · exact hm z hz
theorem bind_cell {h : Heap} {kindOf : Str → Option NameKind} {bs vs} (r : BRel h bs vs) {l : String → Option LV} {m : Str → Option Value} (hm : ∀ x : String, (kindOf (Str.ofString x) = some .cell) → OV h (l x) (m (Str.ofString x)))
    (x : String) (hx : kindOf (Str.ofString x) = some .cell) : OV h (bindLoc bs l x) (bindC kindOf vs m (Str.ofString x)) := by
  induction r generalizing l m with
  | nil => exact hm x hx
  | @cons n a v _ _ y _ ih =>
    refine ih (fun z hz => ?_)
    by_cases q : z = n
    · subst q; rw [if_neg (show ¬ kindOf (Str.ofString z) = some .local by rw [hz]; decide)]; simp; exact y
    · rw [if_neg q]
      have q' : ¬ Str.ofString z = Str.ofString n := fun e => q (ofString_inj.mp e)
      split
      · exact hm z hz
      · dsimp only; rw [if_neg q']; exact hm z hz

/-- a function that stands written out -/
structure FnIs (TS : TopS) (f : Addr) (o : Obj) (fd : FuncData) (sc : Scope) (bd : List Stmt) : Prop where
  at_ : TS.K.lookup f = some o
  data : o.data = .func fd
  scope : fd.scope = sc
  body : fd.body = .stmts bd
  closure : fd.closure = []
  globals : fd.globals = mainGlobals
  builtins : fd.builtins = builtinsNs
  code : codeIn TS.K fd.code fd.qualname = true
  kind : sc.kind = .function
  co : sc.isCoroutine = false
  gen : sc.isGenerator = false
  free : ∀ y ∈ sc.names, y.2 ≠ .free
  nodup : (sc.names.map (·.1)).Nodup

def SimBind (prog : Program) (w : World) (TS : TopS) (n : Nat) (A : Around) (fd : FuncData) (bnd : List LV → Option (List (String × LV))) : Prop :=
  ∀ c env σ s as xs bs, WF TS n c A env → Rel prog w c env σ s → VRels s.heap as xs → bnd as = some bs → ∀ (Q : List (Str × Value) → Shared → Prop) E,
    (∀ binds s', Rel prog w c env σ s' → (∀ b o, s.heap.get? b = some o → s'.heap.get? b = some o) → BRel s'.heap bs binds → Q binds s') → wpAny (model prog w) A.in1 (bindArgs fd ⟨xs, []⟩) Q E s

/-- a callee: what a call of it comes to -/
def SimF (prog : Program) (w : World) (TS : TopS) (n : Nat) (A : Around) (f : Value) (p : List LV → PTx LV) : Prop :=
  ∀ env, env.frame = some env.locals → ∀ c σ s as xs, WF TS n c A env → Rel prog w c env σ s → VRels s.heap as xs → ∀ Q E, p as Q E σ →
    codeAny (model prog w) A (.call f ⟨xs, []⟩) (fun r s' => match r with | .ok (.ret v) => Post prog w c env VRel s.heap Q v s' | .ok _ => False | .error e => EPost prog w c env s.heap E e s') s
theorem SimF.call {prog : Program} {w : World} {TS : TopS} {n : Nat} {A : Around} {f : Value} {p : List LV → PTx LV} (h : SimF prog w TS n A f p) {env : Env} (hf : env.frame = some env.locals) : SimL prog w TS n A env (fun vs => call f vs) VRel p :=
  fun c σ s as xs W r ras Q E q => wpAny_call (h env hf c σ s as xs W r ras Q E q)

theorem cellsFrom_keys : ∀ (names : List (Str × NameKind)) (N : Nat) (acc : List (Str × Addr)), (cellsFrom N names acc).map (·.1) = ((names.filter fun y => y.2 == .cell).map (·.1)).reverse ++ acc.map (·.1)
  | [], N, acc => by simp [cellsFrom]
  | (name, kind) :: r, N, acc => by
    unfold cellsFrom
    split
    · rename_i hk
      rw [cellsFrom_keys r]
      simp [List.filter_cons, hk]
    · rename_i hk
      rw [cellsFrom_keys r]
      simp [List.filter_cons, hk]
theorem lookup_of_mem {α : Type} : ∀ {l : List (Str × α)} {y : Str × α}, (l.map (·.1)).Nodup → y ∈ l → l.lookup y.1 = some y.2
  | [], y, _, hy => nomatch hy
  | z :: r, y, hn, hy => by
    rw [List.map_cons, List.nodup_cons] at hn
    rw [show z = (z.1, z.2) from rfl, List.lookup_cons]
    rcases List.mem_cons.mp hy with rfl | hy
    · simp
    · cases q : y.1 == z.1 with
      | true => exact absurd (List.mem_map.mpr ⟨y, hy, beq_iff_eq.mp q⟩) hn.1
      | false => exact lookup_of_mem hn.2 hy

section
variable {prog : Program} {w : World} {TS : TopS} {c : Cx} {A : Around} {env : Env} {σ : LS} {s : Shared} {n : Nat}

theorem sim_def {f : Addr} {o : Obj} {fd : FuncData} {scope : Scope} {body : List Stmt} {bnd : List LV → Option (List (String × LV))} {mb : PTx LF} (F : FnIs TS f o fd scope body) (hh : A.handled = none)
    (hbind : SimBind prog w TS (n + 1) A fd bnd) (hnames : ∀ as bs, bnd as = some bs → ∀ b ∈ bs, scope.names.lookup (Str.ofString b.1) = some .local ∨ scope.names.lookup (Str.ofString b.1) = some .cell)
    (hb : ∀ A' L q cd, A'.handled = none → Sim prog w TS n A' (fenv scope L q f cd) (execs body (fenv scope L q f cd)) FlRel mb) : SimF prog w TS (n + 1) A (.ref f) (pdef bnd mb) := by
  intro env hf c σ s as xs W h ras Q E q
  obtain ⟨bs, hbs, q⟩ := q
  obtain ⟨outer, hfr, hout⟩ := W.fr hf
  have ho : s.heap.get? f = some o := h.keep _ _ (W.top.kin _ _ F.at_)
  refine codeAny_call_function (by have := W.room; omega) ho F.data (by rw [F.scope]; exact F.co) (by rw [F.scope]; exact F.gen) F.body (codeRec_of (W.top.kin.keeps h.keep) F.code) ?_
  rw [F.scope, F.globals, F.closure, F.builtins]
  refine hbind c env σ s as xs bs W h ras hbs _ _ fun binds s₁ h₁ k₁ rb => ?_
  refine wpAny_newFunctionEnv_cells F.kind (fun x hx => ?_) fun env' he s₂ ic => ?_
  · obtain ⟨b, hb1, hb2⟩ := rb.names x hx
    rw [hb2]
    rcases hnames as bs hbs b hb1 with z | z
    · exact .inl z
    · obtain ⟨a, ha, _⟩ := cellsFrom_own scope.names (s₁.heap.objs.size + 1) [] _ (mem_of_lookup z)
      exact .inr ⟨z, by rw [ha]; rfl⟩
  · have he' : env' = fenv scope s₁.heap.objs.size (fd.qualname ++ ".<locals>.") f fd.code := he
    subst he'
    clear he
    obtain ⟨h₂, tk, rfl⟩ := ic.toInCall.same
    have kk := ic.toInCall.keep
    have im₁ := Imm.of_keeps k₁
    have im₂ := Imm.of_keeps kk
    obtain ⟨G, hG⟩ := h₁.frame
    have nf : NewFrame c env (fenv scope s₁.heap.objs.size (fd.qualname ++ ".<locals>.") f fd.code) (bindLoc bs fun _ => none) s₁.heap h₂ := by
      refine ⟨Nat.le_refl _, ⟨_, ic.toInCall.ns, fun x hx => bind_local (rb.imm im₂) (l := fun _ => none) (m := fun _ => none) (fun _ _ => trivial) x hx⟩, fun x hx => ?_, fun y hy => ?_, fun y hy y' hy' e => ?_, F.kind, rfl, rfl⟩
      · rcases hx with hx | hx
        · obtain ⟨a, ha, _⟩ := cellsFrom_own scope.names (s₁.heap.objs.size + 1) [] _ (mem_of_lookup hx)
          exact ⟨a, _, ha, ic.cell _ a ha, bind_cell (rb.imm im₂) (l := fun _ => none) (m := fun _ => none) (fun _ _ => trivial) x hx⟩
        · exact absurd rfl (F.free _ (mem_of_lookup hx))
      · have hlt := ic.above y.1 y.2 hy
        refine .inr ⟨hlt, ?_⟩
        have hl := lookup_of_mem (by rw [show (fenv scope s₁.heap.objs.size (fd.qualname ++ ".<locals>.") f fd.code).cells = cellsFrom (s₁.heap.objs.size + 1) scope.names [] from rfl, cellsFrom_keys]; simp only [List.map_nil, List.append_nil]; exact List.pairwise_reverse.mpr (List.Pairwise.imp (fun h => Ne.symm h) ((List.filter_sublist.map _).nodup F.nodup))) hy
        exact ⟨_, ic.cell _ _ hl⟩
      · exact name_of_addr ic.apart (c := y.2) hy (e ▸ hy')
    have W' : WF TS n (c.more G) (A.deeper (fenv scope s₁.heap.objs.size (fd.qualname ++ ".<locals>.") f fd.code)) (fenv scope s₁.heap.objs.size (fd.qualname ++ ".<locals>.") f fd.code) := by
      refine W.enter h₁ hG nf (by show A.depth + 1 + n < _; have := W.room; omega) (by show A.units + 3 + 64 * n < _; have := W.units; omega) (fun L hL => by cases hL; exact Nat.le_refl _) rfl fun _ => ⟨env :: outer, Around.frames_deeper hfr, fun e he => ?_⟩
      have hbn : ∀ a, c.base.objs.size ≤ a → c.base.get? a = none := fun a ha => by
        cases z : c.base.get? a with
        | none => rfl
        | some _ => exact absurd (Heap.lt_size z) (Nat.not_lt.mpr ha)
      rcases List.mem_cons.mp he with rfl | he
      · obtain ⟨m, ⟨oL, es, ep, e1, e2, _⟩, _⟩ := h₁.ns
        obtain ⟨oL', ho'⟩ := hG.loc
        have h9 := (hG.all _ ho').1
        dsimp only at h9
        rw [e1] at h9; cases h9
        exact ⟨by rw [W.sep.kind]; decide, _, oL, hf, List.mem_append_left _ ho', hbn _ W.sep.above, es, ep, e2⟩
      · obtain ⟨k1, L, o, k2, k3, k4⟩ := hout e he
        exact ⟨k1, L, o, k2, List.mem_append_right _ k3, k4⟩
    refine ⟨W.top.nolimit.keeps (fun b o e => kk b o (h₁.keep b o e)), codeAny_func ?_⟩
    have h₃ := h₁.enter hG (tk := tk) kk nf
    refine wpAny_mono ((hb (A.deeper (fenv scope s₁.heap.objs.size (fd.qualname ++ ".<locals>.") f fd.code)) _ _ _ hh _ _ _ W' h₃).go (Imm.refl _) q (P := fun fl s' => Post prog w c env VRel s.heap Q (match fl with | .ret v => v | _ => .none) s') fun fl v σ₄ s₄ rf h₄ i₄ j₄ q₄ => ?_) (fun _ _ x => x) fun _ _ x => x.no.elim
    have i₅ : Imm s₁.heap s₄.heap := im₂.trans i₄
    have h₅ := h₁.leave hG h₄ i₅
    cases rf with
    | next => exact ⟨_, _, .none, h₅, im₁.trans i₅, q₄⟩
    | brk => exact q₄.elim
    | cont => exact q₄.elim
    | ret rv => exact ⟨_, _, rv, h₅, im₁.trans i₅, q₄⟩
end
end Mine
end
noncomputable section
open PySem PySem.W PyProof.Rows PySem.Calls PySem.SeqAt
set_option Elab.async false
set_option linter.unusedVariables false
set_option linter.unusedSimpArgs false
namespace Mine

def fput (fs : List (String × LV)) (x : String) (v : LV) : List (String × LV) := match fs with
  | [] => [(x, v)]
  | (y, u) :: r => if y = x then (y, v) :: r else (y, u) :: fput r x v
def sput (fs : List (Option LV)) (i : Nat) (v : LV) : List (Option LV) := (fs ++ List.replicate (i + 1 - fs.length) none).set i (some v)
def plain : LV → Bool
  | .raw _ => false
  | _ => true

/-- attributes in a thing's dict -/
def pgetD (C : Nat) (x : String) : LV → PTx LV
  | .ref a => fun Q _ σ => ∃ d fs es v, σ.heap a = some (.inst C d fs) ∧ σ.heap d = some (.attrs es) ∧ es.lookup x = some v ∧ plain v = true ∧ Q v σ
  | _ => pfail
def psetD (C : Nat) (x : String) : LV → LV → PTx Unit
  | .ref a, v => fun Q _ σ => ∃ d fs es, σ.heap a = some (.inst C d fs) ∧ σ.heap d = some (.attrs es) ∧ es.length < 900 ∧ Q () (σ.put d (.attrs (fput es x v)))
  | _, _ => pfail
/-- attributes in a thing's slots -/
def pgetS (C : Nat) (i : Nat) : LV → PTx LV
  | .ref a => fun Q _ σ => ∃ d fs es v, σ.heap a = some (.inst C d fs) ∧ σ.heap d = some (.attrs es) ∧ fs[i]? = some (some v) ∧ plain v = true ∧ Q v σ
  | _ => pfail
def psetS (C : Nat) (i : Nat) : LV → LV → PTx Unit
  | .ref a, v => fun Q _ σ => ∃ d fs es, σ.heap a = some (.inst C d fs) ∧ σ.heap d = some (.attrs es) ∧ Q () (σ.put a (.inst C d (sput fs i v)))
  | _, _ => pfail

theorem isStr_ofString (x y : String) (t : Tok) : (Value.str (Str.ofString y) t).isStr (Str.ofString x) = decide (y = x) := by
  unfold Value.isStr
  by_cases h : y = x
  · subst h; simp
  · have : ¬ Str.ofString y = Str.ofString x := fun e => h (ofString_inj.mp e)
    simp [h, this]
theorem FRel.look {P : Params} {h : Heap} (x : String) {fs es} (r : FRel P h fs es) : (match fs.lookup x with
    | some a => ∃ v, getL (Str.ofString x) es = some (some v) ∧ VRel h a v
    | none => getL (Str.ofString x) es = some none) := by
  induction r with
  | nil => rfl
  | @cons k t a v fs es y r ih =>
    rw [List.lookup_cons]
    by_cases hk : x = k
    · subst hk
      simp only [beq_self_eq_true]
      refine ⟨v, ?_, y⟩
      unfold getL
      rw [List.find?_cons, show (Value.str (Str.ofString x) t).isStr (Str.ofString x) = true by rw [isStr_ofString]; simp]
    · have hb : (x == k) = false := beq_eq_false_iff_ne.mpr hk
      rw [hb]
      have e9 : getL (Str.ofString x) (⟨PyData.keyHash P (Str.ofString k), .str (Str.ofString k) t, v⟩ :: es) = getL (Str.ofString x) es := by
        unfold getL
        rw [List.find?_cons, show (Value.str (Str.ofString k) t).isStr (Str.ofString x) = false by rw [isStr_ofString]; simp [Ne.symm hk], List.any_cons]
        rfl
      rw [e9]; exact ih
theorem FRel.put {P : Params} {h : Heap} {x : String} {tk : Tok} {a : LV} {v : Value} (hv : VRel h a v) {fs es} (r : FRel P h fs es) : FRel P h (fput fs x a) (putL (Str.ofString x) (PyData.keyHash P (Str.ofString x)) (.str (Str.ofString x) tk) v es) := by
  induction r with
  | nil => exact .cons hv .nil
  | @cons k t _ _ _ _ y r ih =>
    unfold fput putL
    rw [show (Value.str (Str.ofString k) t).isStr (Str.ofString x) = decide (k = x) from isStr_ofString x k t]
    by_cases hk : k = x
    · subst hk; simp only [decide_true, if_true]; exact .cons hv r
    · simp only [hk, decide_false, if_false, Bool.false_eq_true]; exact .cons y ih
theorem FRel.length {P : Params} {h : Heap} {fs es} (r : FRel P h fs es) : fs.length = es.length := by
  induction r with
  | nil => rfl
  | cons _ _ ih => exact congrArg (· + 1) ih
theorem putL_length (x : Str) (hs : Int) (k v : Value) : ∀ es : List DictEntry, (putL x hs k v es).length ≤ es.length + 1
  | [] => by simp [putL]
  | e :: r => by
    unfold putL
    split
    · simp
    · simp only [List.length_cons]; have := putL_length x hs k v r; omega
theorem OVs.get {h : Heap} {as : List (Option LV)} {vs : List (Option Value)} (r : OVs h as vs) {i : Nat} {a : LV} (e : as[i]? = some (some a)) : ∃ v, vs[i]? = some (some v) ∧ VRel h a v := by
  induction r generalizing i with
  | nil => cases e
  | cons x _ ih =>
    cases i with
    | zero => cases e; obtain ⟨y, rfl, hy⟩ := x.some_left; exact ⟨y, rfl, hy⟩
    | succ i => exact ih e
theorem OVs.length {h : Heap} {as vs} (r : OVs h as vs) : as.length = vs.length := by
  induction r with
  | nil => rfl
  | cons _ _ ih => exact congrArg (· + 1) ih
theorem OVs.append {h : Heap} {as bs vs ws} (r : OVs h as vs) (q : OVs h bs ws) : OVs h (as ++ bs) (vs ++ ws) := by
  induction r with
  | nil => exact q
  | cons x _ ih => exact .cons x ih
theorem OVs.none (h : Heap) : ∀ k, OVs h (List.replicate k none) (List.replicate k none)
  | 0 => .nil
  | k + 1 => .cons trivial (OVs.none h k)
theorem OVs.set {h : Heap} {as vs} (i : Nat) {a : Option LV} {v : Option Value} (r : OVs h as vs) (y : OV h a v) : OVs h (as.set i a) (vs.set i v) := by
  induction r generalizing i with
  | nil => exact .nil
  | cons x r ih =>
    cases i with
    | zero => exact .cons y r
    | succ i => exact .cons x (ih i)
theorem plain_handed {h : Heap} {a : LV} {v : Value} (p : plain a = true) (r : VRel h a v) : handedIn v = true := by
  cases r <;> first | rfl | cases p

/-- all objects but two -/
def others (h : Heap) (a L : Addr) : List (Addr × Obj) := (List.range h.objs.size).filterMap fun b => if b = a ∨ b = L then none else (h.get? b).map fun o => (b, o)
theorem others_mem {h : Heap} {a L : Addr} {p : Addr × Obj} : p ∈ others h a L ↔ (h.get? p.1 = some p.2 ∧ p.1 ≠ a ∧ p.1 ≠ L) := by
  unfold others
  rw [List.mem_filterMap]
  constructor
  · rintro ⟨b, hb, e⟩
    split at e
    · cases e
    · rename_i hn
      obtain ⟨o, ho, rfl⟩ := Option.map_eq_some_iff.mp e
      exact ⟨ho, fun q => hn (.inl q), fun q => hn (.inr q)⟩
  · rintro ⟨h1, h2, h3⟩
    refine ⟨p.1, List.mem_range.mpr (Heap.lt_size h1), ?_⟩
    rw [if_neg (by rintro (q | q); exact h2 q; exact h3 q), h1]
    rfl

section
variable {prog : Program} {w : World} {TS : TopS} {c : Cx} {A : Around} {env : Env} {σ : LS} {s : Shared} {n : Nat}

theorem Rel.inst_at (h : Rel prog w c env σ s) {a C d : Nat} {fs : List (Option LV)} (e : σ.heap a = some (.inst C d fs)) : ∃ sl, s.heap.get? a = some { cls := .ref C, dict := some d, data := .plain, slots := sl } ∧ OVs s.heap fs sl.toList := h.obj a _ e
theorem Rel.attrs_at (h : Rel prog w c env σ s) {d : Nat} {es : List (String × LV)} (e : σ.heap d = some (.attrs es)) : ∃ es' n, s.heap.get? d = some (dictOf es' n) ∧ FRel w.params s.heap es es' := h.obj d _ e
theorem Rel.inst (h : Rel prog w c env σ s) {a C d : Nat} {fs : List (Option LV)} {es : List (String × LV)} (e : σ.heap a = some (.inst C d fs)) (e' : σ.heap d = some (.attrs es)) :
    ∃ sl es' n, InstAt s.heap a { cls := .ref C, dict := some d, data := .plain, slots := sl } C (some (dictOf es' n)) ∧ OVs s.heap fs sl.toList ∧ FRel w.params s.heap es es' := by
  obtain ⟨sl, h1, h2⟩ := h.inst_at e
  obtain ⟨es', n, h3, h4⟩ := h.attrs_at e'
  exact ⟨sl, es', n, ⟨h1, rfl, rfl, h3⟩, h2, h4⟩

/-- a lite object turned, the frame's names standing on -/
theorem Rel.updateL (W : WF TS n c A env) (h : Rel prog w c env σ s) {h' : Heap} {tk : Nat} {a : Addr} {o o' : LO} (e : σ.heap a = some o) (k : ∀ b ob, b ≠ a → b ≠ env.locals → s.heap.get? b = some ob → h'.get? b = some ob) (hn : ∀ m, s.heap.Ns env.locals m → h'.Ns env.locals m) (r : Imm s.heap h' → ORel prog w h' a o') :
    Rel prog w c env (σ.put a o') { s with heap := h', toks := tk } ∧ Imm s.heap h' := by
  obtain ⟨d1, d2, d3, d4⟩ := h.dom a o e
  obtain ⟨ob, e1, e2⟩ := (h.obj a o e).notImm
  obtain ⟨m, n1, n2⟩ := h.ns
  have im : Imm s.heap h' := fun b o9 e9 i9 => by
    refine k b o9 (fun z => ?_) (fun z => ?_) e9
    · rw [z, e1] at e9; cases e9; rw [e2] at i9; cases i9
    · rw [z] at e9; rw [notImm_ns n1 o9 e9] at i9; cases i9
  have r := r im
  have hbl : ∀ b o9, c.base.get? b = some o9 → b ≠ env.locals := fun b o9 e9 => Nat.ne_of_lt (Nat.lt_of_lt_of_le (Heap.lt_size e9) W.sep.above)
  refine ⟨⟨fun b o e => k b o (fun q => by rw [q, d1] at e; cases e) (hbl b o e) (h.keep b o e), fun p hp => (h.guard p hp).imp fun _ e => ⟨k _ _ (d3 p hp) (W.sep.gL p hp) e.1, e.2⟩, ⟨m, hn m n1, fun x q => (n2 x q).imm im⟩,
    fun x q => ?_, fun y hy => (h.cin y hy).imp fun v ⟨oc, c1, c2⟩ => ⟨oc, k _ oc (d4 y hy) (W.sep.cellL y hy) c1, c2⟩, fun b o₂ e₂ => ?_, fun b o₂ e₂ => ?_, h.gens, h.os, h.drawn⟩, im⟩
  · obtain ⟨b, v, e1, ⟨oc, c1, c2⟩, e3⟩ := h.cell x q
    exact ⟨b, v, e1, ⟨oc, k b oc (d4 (_, b) (mem_of_lookup e1)) (W.sep.cellL _ (mem_of_lookup e1)) c1, c2⟩, e3.imm im⟩
  · simp only [LS.put] at e₂
    by_cases q : b = a
    · subst q; simp at e₂; subst e₂; exact r
    · simp [q] at e₂; exact (h.obj b o₂ e₂).move im fun ob eb => k _ _ q (h.dom b o₂ e₂).2.1 eb
  · simp only [LS.put] at e₂
    by_cases q : b = a
    · subst q; exact ⟨d1, d2, d3, d4⟩
    · simp [q] at e₂; exact h.dom b o₂ e₂

theorem sim_getD {C : Nat} {x : String} {expr : Bool} (hg : plainGet TS.K C (Str.ofString x) = true) (hh : hasDictIn TS.K C = true) (ha : findIn TS.K (.ref C) (Str.ofString x) = some none) :
    Sim1 prog w TS n A env (fun v => getAttr v (Str.ofString x) expr) VRel (pgetD C x) := fun c σ s a y W h ra Q E q => by
  cases a with
  | ref a =>
    obtain ⟨d, fs, es, v, e1, e2, e3, e4, q⟩ := q
    cases ra.ref_inv
    obtain ⟨sl, es', n', I, r1, r2⟩ := h.inst e1 e2
    have := r2.look x
    rw [e3] at this
    obtain ⟨u, hu, hv⟩ := this
    exact get_value (W.top.kin.keeps h.keep) I (plainGet_of hg).1 (findObj_own hh ha rfl hu) (plain_handed e4 hv) ⟨v, σ, hv, h.toks _, Imm.refl _, q⟩
  | _ => exact q.elim
theorem sim_getS {C p i : Nat} {x : String} {expr : Bool} (hg : plainGet TS.K C (Str.ofString x) = true) (hc : isClsIn TS.K C = true) (ha : findIn TS.K (.ref C) (Str.ofString x) = some (some (.ref p))) (hn : specialIn TS.K (.ref p) "__get__" = some (some (.builtin "member_descriptor.__get__"))) (ht : takesIn TS.K (.ref p) = some true) (hp : slotIn TS.K p C = some i) :
    Sim1 prog w TS n A env (fun v => getAttr v (Str.ofString x) expr) VRel (pgetS C i) := fun c σ s a y W h ra Q E q => by
  cases a with
  | ref a =>
    obtain ⟨d, fs, es, v, e1, e2, e3, e4, q⟩ := q
    cases ra.ref_inv
    obtain ⟨sl, es', n', I, r1, r2⟩ := h.inst e1 e2
    obtain ⟨u, hu, hv⟩ := r1.get e3
    have X := W.top.kin.keeps h.keep
    refine get_bind X I (plainGet_of hg).1 (findObj_data hc ha hn ht) (plainGet_of hg).2 (wpAny_call (slot_get (s := { s with toks := s.toks + 1 }) X I hp (v := u) (by rw [← Array.getElem?_toList, hu]; rfl) (handed_on (plain_handed e4 hv) ⟨v, σ, hv, h.toks _, Imm.refl _, q⟩)))
  | _ => exact q.elim
theorem sim_setD {C : Nat} {x : String} (hs : findIn TS.K (.ref C) "__setattr__" = some (some (.builtin "object.__setattr__"))) (hp : plainOver TS.K C = true) (ht : takerIn TS.K C (Str.ofString x) = some none) (hh : hasDictIn TS.K C = true) :
    Sim2 prog w TS n A env (fun o v => setAttr o (Str.ofString x) v) REq (psetD C x) := fun c σ s a y b z W h ra rb Q E q => by
  cases a with
  | ref a =>
    obtain ⟨d, fs, es, e1, e2, hz, q⟩ := q
    cases ra.ref_inv
    obtain ⟨sl, es', n', I, r1, r2⟩ := h.inst e1 e2
    obtain ⟨m, n1, n2⟩ := h.ns
    have X := W.top.kin.keeps h.keep
    have hd := (h.dom d _ e2).2.1
    have hlen := r2.length
    have N : News {} env.locals s.heap (others s.heap d env.locals ++ (d, dictOf es' n') :: []) := fun p hp => by
      rcases List.mem_append.mp hp with hp | hp
      · obtain ⟨p1, p2, p3⟩ := others_mem.mp hp; exact ⟨p1, p3, rfl⟩
      · rw [List.mem_singleton.mp hp]; exact ⟨I.dict, hd, rfl⟩
    refine set_plain X I hs (osa_dict (h₀ := {}) (L := env.locals) (m := m) (s := { s with toks := s.toks + 1 }) (es := putL (Str.ofString x) (PyData.keyHash w.params (Str.ofString x)) (.str (Str.ofString x) (s.toks + 1)) z es') (n := putN (Str.ofString x) es' n') ⟨n1, fun _ _ e => (nomatch e), Nat.zero_le _⟩ N X I rfl hp ht hh ?_ (fun p hp => (others_mem.mp hp).2.1) (fun p hp => (nomatch hp)) (putName_dict ..) rfl ?_ fun h' F' N' => ?_)
    · rw [lookIn_dict]
      have := r2.look x
      split at this
      · obtain ⟨u, hu, _⟩ := this; rw [hu]; rfl
      · rw [this]; rfl
    · have := putL_length (Str.ofString x) (PyData.keyHash w.params (Str.ofString x)) (.str (Str.ofString x) (s.toks + 1)) z es'; omega
    · obtain ⟨r, im⟩ := Rel.updateL W h (h' := h') (tk := s.toks + 1 + 1) (o' := .attrs (fput es x b)) e2 (fun p ob h1 h2 h3 => (N' (p, ob) (List.mem_append_left _ (others_mem.mpr ⟨h3, h1, h2⟩))).1) (fun m' hm' => by rw [hm'.eq_nsMap, ← n1.eq_nsMap]; exact F'.ns) (fun im => ⟨_, _, (N' (d, _) (List.mem_append_right _ (.head _))).1, (r2.imm im).put (rb.imm im)⟩)
      exact ⟨(), _, rfl, r, im, q⟩
  | _ => exact q.elim
theorem sim_setS {C p i : Nat} {x : String} (hs : findIn TS.K (.ref C) "__setattr__" = some (some (.builtin "object.__setattr__"))) (hp : plainOver TS.K C = true) (ht : takerIn TS.K C (Str.ofString x) = some (some (.ref p))) (hT : typeIn TS.K (.ref p) = some (.type "member_descriptor")) (hi : slotIn TS.K p C = some i) (hz : i < 1000) :
    Sim2 prog w TS n A env (fun o v => setAttr o (Str.ofString x) v) REq (psetS C i) := fun c σ s a y b z W h ra rb Q E q => by
  cases a with
  | ref a =>
    obtain ⟨d, fs, es, e1, e2, q⟩ := q
    cases ra.ref_inv
    obtain ⟨sl, es', n', I, r1, r2⟩ := h.inst e1 e2
    obtain ⟨m, n1, n2⟩ := h.ns
    have X := W.top.kin.keeps h.keep
    have ha := (h.dom a _ e1).2.1
    have N : News {} env.locals s.heap (others s.heap a env.locals ++ (a, { cls := .ref C, dict := some d, data := .plain, slots := sl }) :: []) := fun p hp => by
      rcases List.mem_append.mp hp with hp | hp
      · obtain ⟨p1, p2, p3⟩ := others_mem.mp hp; exact ⟨p1, p3, rfl⟩
      · rw [List.mem_singleton.mp hp]; exact ⟨I.at_, ha, rfl⟩
    refine set_plain X I hs (osa_descr (s := { s with toks := s.toks + 1 }) KF.slot_mset X I hp ht hT (slot_set (h₀ := {}) (L := env.locals) (m := m) (s := { s with toks := s.toks + 1 }) ⟨n1, fun _ _ e => (nomatch e), Nat.zero_le _⟩ N X I hi hz (fun p hp => (others_mem.mp hp).2.1) (fun p hp => (nomatch hp)) rfl rfl fun h' F' N' => ?_))
    have hov : Imm s.heap h' → OVs h' (sput fs i b) ((sl ++ Array.replicate (i + 1 - sl.size) none).setIfInBounds i (some z)).toList := fun im => by
      have hl := r1.length
      have : ((sl ++ Array.replicate (i + 1 - sl.size) none).setIfInBounds i (some z)).toList = (sl.toList ++ List.replicate (i + 1 - sl.toList.length) none).set i (some z) := by simp
      rw [this]
      unfold sput
      rw [hl]
      exact ((r1.imm im).append (OVs.none h' _)).set i (rb.imm im)
    obtain ⟨r, im⟩ := Rel.updateL W h (h' := h') (tk := s.toks + 1) (o' := .inst C d (sput fs i b)) e1 (fun p ob h1 h2 h3 => (N' (p, ob) (List.mem_append_left _ (others_mem.mpr ⟨h3, h1, h2⟩))).1) (fun m' hm' => by rw [hm'.eq_nsMap, ← n1.eq_nsMap]; exact F'.ns) (fun im => ⟨_, (N' (a, _) (List.mem_append_right _ (.head _))).1, hov im⟩)
    exact ⟨(), _, rfl, r, im, q⟩
  | _ => exact q.elim
end
end Mine
end
noncomputable section
open PySem PySem.W PyProof.Rows PySem.Calls PySem.SeqAt
set_option Elab.async false
set_option linter.unusedVariables false
set_option linter.unusedSimpArgs false
namespace Mine
abbrev pmake (C : Nat) (p : List LV → PTx LV) : List LV → PTx LV := fun as Q E σ =>
  ∀ d a, d ≠ a → σ.heap d = none → σ.heap a = none → p (.ref a :: as) (fun v σ' => v = .none ∧ Q (.ref a) σ') E ((σ.put d (.attrs [])).put a (.inst C d []))
/-- a thing of C without an own attribute of that name -/
def pisinst (C : Nat) (x : String) : LV → PTx Unit
  | .ref a => fun Q _ σ => ∃ d fs es, σ.heap a = some (.inst C d fs) ∧ σ.heap d = some (.attrs es) ∧ es.lookup x = none ∧ Q () σ
  | _ => pfail
def pstar : LV → PTx (List LV)
  | .tup vs => fun Q _ σ => vs.length ≤ cap ∧ Q vs σ
  | .ref a => fun Q _ σ => ∃ xs, σ.heap a = some (.list xs) ∧ Q xs σ
  | _ => pfail
section
variable {prog : Program} {w : World} {TS : TopS} {c : Cx} {A : Around} {env : Env} {σ : LS} {s : Shared} {n : Nat}

theorem sim_Attr {o : Expr} {x : String} {pos : Pos} {m : PTx LV} {p : LV → PTx LV} (ho : Sim prog w TS n A env (eval o env) VRel m) (hg : Sim1 prog w TS n A env (fun v => getAttr v (Str.ofString x) true) VRel p)
    (he : eval (.Attribute o (Str.ofString x) pos) env = (do
      let ov ← eval o env
      standAt pos.atName
      let r ← holding [ov] (getAttr ov (Str.ofString x) true)
      letTemporaryGo o ov r
      pure r)) : Sim prog w TS n A env (eval (.Attribute o (Str.ofString x) pos) env) VRel (pbind m p) := fun c σ s W h Q E q =>
  Attribute_any_ ((ho c σ s W h).go (Imm.refl _) q fun a v σ₁ s₁ ra h₁ i₁ j₁ q₁ => (hg c σ₁ s₁ a v W h₁ ra).fin i₁ q₁) he
theorem sim_AssignAttr {o e : Expr} {x : String} {pos pos' : Pos} {m mo : PTx LV} {p : LV → LV → PTx Unit} (h1 : Sim prog w TS n A env (eval e env) VRel m) (ho : Sim prog w TS n A env (eval o env) VRel mo) (hp : Sim2 prog w TS n A env (fun o v => setAttr o (Str.ofString x) v) REq p)
    (hs : swapsWith e (some (.Attribute o (Str.ofString x) pos')) pos.line env = pure false) :
    Sim prog w TS n A env (exec (.Assign [.Attribute o (Str.ofString x) pos'] e pos) env) FlRel (pbind m fun v => pbind mo fun a => pbind (p a v) fun _ => pret .next) := fun c σ s W h Q E q =>
  plainObj_wpAny_Assign_Attribute ((h1 c σ s W h).go (Imm.refl _) q fun b y σ₁ s₁ rb h₁ i₁ j₁ q₁ => (ho c σ₁ s₁ W h₁).go i₁ q₁ fun a v σ₂ s₂ ra h₂ i₂ j₂ q₂ => (hp c σ₂ s₂ a v b y W h₂ ra (rb.imm j₂)).go i₂ q₂ fun _ _ σ₃ s₃ _ h₃ i₃ j₃ q₃ => ⟨_, σ₃, .next, h₃, i₃, q₃⟩) hs
theorem sim_AugAttr {o e : Expr} {x : String} {op : Operator} {pos pos' : Pos} {m mo : PTx LV} {g : LV → PTx LV} {pp : LV → LV → PTx LV} {p : LV → LV → PTx Unit} (ho : Sim prog w TS n A env (eval o env) VRel mo) (hg : Sim1 prog w TS n A env (fun v => getAttr v (Str.ofString x) true) VRel g)
    (h1 : Sim prog w TS n A env (eval e env) VRel m) (hop : Sim2 prog w TS n A env (inplaceOp op) VRel pp) (hp : Sim2 prog w TS n A env (fun o v => setAttr o (Str.ofString x) v) REq p) :
    Sim prog w TS n A env (exec (.AugAssign (.Attribute o (Str.ofString x) pos') op e pos) env) FlRel (pbind mo fun a => pbind (g a) fun u => pbind m fun v => pbind (pp u v) fun z => pbind (p a z) fun _ => pret .next) := fun c σ s W h Q E q =>
  wpAny_AugAssign_AttributeAny ((ho c σ s W h).go (Imm.refl _) q fun a v σ₁ s₁ ra h₁ i₁ j₁ q₁ => (hg c σ₁ s₁ a v W h₁ ra).go i₁ q₁ fun b y σ₂ s₂ rb h₂ i₂ j₂ q₂ => (h1 c σ₂ s₂ W h₂).go i₂ q₂ fun d u σ₃ s₃ rd h₃ i₃ j₃ q₃ =>
    (hop c σ₃ s₃ b y d u W h₃ (rb.imm j₃) rd).go i₃ q₃ fun z t σ₄ s₄ rz h₄ i₄ j₄ q₄ => (hp c σ₄ s₄ a v z t W h₄ (((ra.imm j₂).imm j₃).imm j₄) rz).go i₄ q₄ fun _ _ σ₅ s₅ _ h₅ i₅ j₅ q₅ => ⟨_, σ₅, .next, h₅, i₅, q₅⟩)

-- calls of defs and classes by name
theorem sim_CallF {f : String} {v : Value} {es : List Expr} {np pos : Pos} {m : PTx (List LV)} {p : List LV → PTx LV} (hv : TS.gl f = some v) (hkp : keepIn TS.K v = true) (hk : env.kindOf (Str.ofString f) = some .globalImplicit) (hd : (Str.ofString f == ("__debug__" : Str)) = false)
    (hf : env.frame = some env.locals) (hns : (argT pos es env).any (·.1) = false) (ha : Sim prog w TS n A env (spliced (argT pos es env)) VRels m) (hp : SimF prog w TS n A v p) :
    Sim prog w TS n A env (eval (.Call (.Name (Str.ofString f) np) es [] pos) env) VRel (pbind m p) := fun c σ s W h Q E q => by
  refine wpAny_Call_ofName (at_glob hv hk hd W h (callWith_of (P := TS.K.In) (by rw [hns]; rfl) (keeps_K hkp) (evalArgs_go hns ?_)))
  exact (ha c σ s W h).go (Imm.refl _) q fun as vs σ₁ s₁ ra h₁ i₁ j₁ q₁ => ⟨W.top.kin.keeps h₁.keep, (hp.call hf c σ₁ s₁ as vs W h₁ ra).fin i₁ q₁⟩

-- methods of things
theorem meth_go {C f : Nat} {x : String} {o : Expr} {apos pos : Pos} {args : List Expr} {pl : Sem Bool} {mo : PTx LV} {K : LV → LS → Prop} {E : LX → LS → Prop} {P : Value → Shared → Prop}
    (hg : plainGet TS.K C (Str.ofString x) = true) (hfn : findIn TS.K (.ref C) (Str.ofString x) = some (some (.ref f))) (ht : isFn TS.K (.ref f) = true)
    (he : eval (.Call (.Attribute o (Str.ofString x) apos) args [] pos) env = (do
      let ov ← eval o env
      standAt apos.atName
      let (f, first) ← holding [ov] (getMethod ov (Str.ofString x) pl)
      callWith pos f first (backTo pos (starEach args env)) (backToKw pos (keywordEach [] env))))
    (ho : Sim prog w TS n A env (eval o env) VRel mo) (W : WF TS n c A env) (h : Rel prog w c env σ s) (q : (pbind mo fun a => pbind (pisinst C x a) fun _ => fun Q E σ => Q a σ) K E σ)
    (g : ∀ a σ₁ s₁, Rel prog w c env σ₁ s₁ → Imm s.heap s₁.heap → K (.ref a) σ₁ → wpAny (model prog w) A (callWith pos (.ref f) [.ref a] (argT pos args env) []) P (EPost prog w c env s.heap E) s₁) :
    wpAny (model prog w) A (eval (.Call (.Attribute o (Str.ofString x) apos) args [] pos) env) P (EPost prog w c env s.heap E) s := by
  refine methodCall_KW ((ho c σ s W h).go (Imm.refl _) q fun a v σ₁ s₁ ra h₁ i₁ j₁ q₁ => ?_) he
  cases a with
  | ref a =>
    obtain ⟨d, fs, es, e1, e2, e3, q₁⟩ := q₁
    cases ra.ref_inv
    obtain ⟨sl, es', n', I, r1, r2⟩ := h₁.inst e1 e2
    refine method_fn (W.top.kin.keeps h₁.keep) I (plainGet_of hg).1 (plainGet_of hg).2 hfn (beq_iff_eq.mp ht) ?_ (g a σ₁ s₁ h₁ i₁ q₁)
    have := r2.look x
    rw [e3] at this
    show (lookIn (Str.ofString x) (dictOf es' n')).map _ = _
    rw [lookIn_dict, this]; rfl
  | _ => exact q₁.elim
theorem sim_CallMeth {C f : Nat} {x : String} {o : Expr} {apos pos : Pos} {args : List Expr} {pl : Sem Bool} {mo : PTx LV} {m : PTx (List LV)} {p : List LV → PTx LV}
    (hg : plainGet TS.K C (Str.ofString x) = true) (hfn : findIn TS.K (.ref C) (Str.ofString x) = some (some (.ref f))) (ht : isFn TS.K (.ref f) = true) (hkp : keepIn TS.K (.ref f) = true)
    (he : eval (.Call (.Attribute o (Str.ofString x) apos) args [] pos) env = (do
      let ov ← eval o env
      standAt apos.atName
      let (f, first) ← holding [ov] (getMethod ov (Str.ofString x) pl)
      callWith pos f first (backTo pos (starEach args env)) (backToKw pos (keywordEach [] env))))
    (hf : env.frame = some env.locals) (hns : (argT pos args env).any (·.1) = false) (ho : Sim prog w TS n A env (eval o env) VRel mo) (ha : Sim prog w TS n A env (spliced (argT pos args env)) VRels m) (hp : SimF prog w TS n A (.ref f) p) :
    Sim prog w TS n A env (eval (.Call (.Attribute o (Str.ofString x) apos) args [] pos) env) VRel (pbind mo fun a => pbind (pisinst C x a) fun _ => pbind m fun as => p (a :: as)) := fun c σ s W h Q E q => by
  refine meth_go hg hfn ht he ho W h (K := fun a σ => m (fun as σ' => p (a :: as) Q E σ') E σ) q fun a σ₁ s₁ h₁ i₁ q₁ => ?_
  refine callWith_of (P := TS.K.In) (by rw [hns]; rfl) (keeps_K hkp) (evalArgs_go hns ?_)
  exact (ha c σ₁ s₁ W h₁).go i₁ q₁ fun as vs σ₂ s₂ ra h₂ i₂ j₂ q₂ => ⟨W.top.kin.keeps h₂.keep, (hp.call hf c σ₂ s₂ (.ref a :: as) (.ref a :: vs) W h₂ (.cons (.ref a) ra)).fin i₂ q₂⟩

-- stars
theorem at_star {a : LV} {x : Value} {K : List LV → LS → Prop} {E : LX → LS → Prop} {E' : Value → Shared → Prop} {P : List Value → Shared → Prop} (h : Rel prog w c env σ s) (ra : VRel s.heap a x) (q : pstar a K E σ)
    (g : ∀ as vs s', VRels s'.heap as vs → Rel prog w c env σ s' → Imm s.heap s'.heap → K as σ → P vs s') : StarOf (model prog w) A E' x P s := by
  have := cap_le
  cases a with
  | tup vs =>
    obtain ⟨hz, q⟩ := q
    obtain ⟨t, items, n2, rfl, e2, r2⟩ := ra.tup_inv
    have hl := r2.length
    unfold StarOf notIterableAtAll
    refine wpAny_bind (wpAny_specialOf ⟨_, e2, rfl⟩ PySem.F.slot_tuple_iter.lookup (wpAny_pure ⟨rfl, ?_⟩))
    refine wpAny_collect_seq t (.inr rfl) e2 rfl rfl (fun h' hk => ?_) (by simp; omega)
    exact g vs items _ (r2.imm (Imm.of_keeps hk)) (h.keeps (tk := s.toks) hk) (Imm.of_keeps hk) q
  | ref a =>
    obtain ⟨xs, e, q⟩ := q
    cases ra.ref_inv
    obtain ⟨hz, it, n1, l1, r1⟩ := h.list_at e
    have hl := r1.length
    unfold StarOf notIterableAtAll
    refine wpAny_bind (wpAny_specialOf ⟨_, l1, rfl⟩ PySem.F.slot_list_iter.lookup (wpAny_pure ⟨rfl, ?_⟩))
    refine wpAny_collect_seq a (.inl rfl) l1 rfl rfl (fun h' hk => ?_) (by simp at hl; omega)
    exact g xs it.toList _ (r1.imm (Imm.of_keeps hk)) (h.keeps (tk := s.toks) hk) (Imm.of_keeps hk) q
  | _ => exact q.elim
/-- an argument with a star, the last one -/
theorem sim_arg_star {pos p : Pos} {e : Expr} {m : PTx LV} (h1 : Sim prog w TS n A env (eval e env) VRel m) (he : starEach [.Starred e p] env = [(true, eval e env)]) :
    Sim prog w TS n A env (spliced (argT pos [.Starred e p] env)) VRels (pbind m pstar) := fun c σ s W h Q E q => by
  show wpAny _ A (spliced (backTo pos (starEach [.Starred e p] env))) _ _ s
  rw [he]
  refine ks_spliced ((h1 c σ s W h).go (Imm.refl _) q fun a x σ₁ s₁ ra h₁ i₁ j₁ q₁ => at_star h₁ ra q₁ fun as vs s₂ ras h₂ i₂ q₂ => spliced_nil ⟨as, σ₁, ?_, h₂, i₁.trans i₂, q₂⟩)
  rw [List.append_nil]; exact ras
theorem findObj_meth {K : Frag} {C : Addr} {name : Str} {od : Obj} {f : Addr} (hh : hasDictIn K C = true) (ha : findIn K (.ref C) name = some (some (.ref f))) (hg : specialIn K (.ref f) "__get__" = some (some (.builtin "function.__get__"))) (ht : takesIn K (.ref f) = some false) (hl : lookIn name od = some none) (hc : copiedNames.contains name = false) :
    findObj K C (some od) name = some (.bind (.builtin "function.__get__") (.ref f)) := by
  obtain ⟨cd, hc', hd⟩ := any_some hh
  unfold findObj
  have ho : W.ownOf cd (some od) name = some none := by unfold W.ownOf; rw [if_pos hd]; exact hl
  rw [hc', Option.bind_some, ha, Option.bind_some]
  simp only [hg, ht, Option.bind_some, ho, hc, Bool.false_and, Bool.false_eq_true, if_false]
/-- a method bound, up to the call -/
theorem bound_go {C f : Nat} {x : String} {o : Expr} {apos pos : Pos} {args : List Expr} {mo : PTx LV} {K : LV → LS → Prop} {E : LX → LS → Prop} {P : Value → Shared → Prop}
    (hg : plainGet TS.K C (Str.ofString x) = true) (hh : hasDictIn TS.K C = true) (hfn : findIn TS.K (.ref C) (Str.ofString x) = some (some (.ref f))) (hsp : specialIn TS.K (.ref f) "__get__" = some (some (.builtin "function.__get__"))) (htk : takesIn TS.K (.ref f) = some false) (hty : typeIn TS.K (.ref f) = some (.type "function")) (hcp : copiedNames.contains (Str.ofString x) = false)
    (he : eval (.Call (.Attribute o (Str.ofString x) apos) args [] pos) env = (do
      let ov ← eval o env
      standAt apos.atName
      let (f, first) ← holding [ov] (do pure (← getAttr ov (Str.ofString x) true, []))
      callWith pos f first (backTo pos (starEach args env)) (backToKw pos (keywordEach [] env))))
    (ho : Sim prog w TS n A env (eval o env) VRel mo) (W : WF TS n c A env) (h : Rel prog w c env σ s) (q : (pbind mo fun a => pbind (pisinst C x a) fun _ => fun Q E σ => Q a σ) K E σ)
    (g : ∀ a u σ₁ s₁, Rel prog w (c.more [(u, methodObj (.ref f) (.ref a))]) env σ₁ s₁ → WF TS n (c.more [(u, methodObj (.ref f) (.ref a))]) A env → Imm s.heap s₁.heap → K (.ref a) σ₁ → wpAny (model prog w) A (callWith pos (.ref u) [] (argT pos args env) []) P (EPost prog w c env s.heap E) s₁) :
    wpAny (model prog w) A (eval (.Call (.Attribute o (Str.ofString x) apos) args [] pos) env) P (EPost prog w c env s.heap E) s := by
  rw [he]
  refine wpAny_bind ((ho c σ s W h).go (Imm.refl _) q fun a v σ₁ s₁ ra h₁ i₁ j₁ q₁ => wpAny_bind (wpAny_standAt (wpAny_bind (wpAny_holding (wpAny_bind ?_)))))
  cases a with
  | ref a =>
    obtain ⟨d, fs, es, e1, e2, e3, q₁⟩ := q₁
    cases ra.ref_inv
    obtain ⟨sl, es', n', I, r1, r2⟩ := h₁.inst e1 e2
    have X := W.top.kin.keeps h₁.keep
    have hl : lookIn (Str.ofString x) (dictOf es' n') = some none := by
      have := r2.look x
      rw [e3] at this
      rw [lookIn_dict]; exact this
    have k : ∀ b o, s₁.heap.get? b = some o → (s₁.heap.push (methodObj (.ref f) (.ref a))).get? b = some o := fun b o e => Heap.get?_push_of_some _ e
    refine get_bind X I (plainGet_of hg).1 (findObj_meth hh hfn hsp htk hl hcp) (plainGet_of hg).2 (wpAny_call (fn_get (s := { s₁ with toks := s₁.toks + 1 }) X hty (handed_on rfl (wpAny_pure ?_))))
    have h₂ := h₁.guardNew (tk := s₁.toks + 1) (o := methodObj (.ref f) (.ref a)) k (Heap.get?_push_size _ rfl) rfl rfl (fun _ => rfl)
    exact g a _ σ₁ _ h₂ (W.more fun p hp => by rw [List.mem_singleton.mp hp]; exact ⟨h₁.fresh_loc, h₁.fresh_cell⟩) (i₁.trans (Imm.of_keeps k)) q₁
  | _ => exact q₁.elim
theorem meth_of {u f : Nat} {self : Value} (h : Rel prog w (c.more [(u, methodObj (.ref f) self)]) env σ s) : s.heap.get? u = some (methodObj (.ref f) self) := by
  obtain ⟨og, g, _, _, e⟩ := h.guard (u, methodObj (.ref f) self) (.head _)
  rw [e rfl] at g; exact g
theorem call_bound {u f : Nat} {a : Nat} {p : List LV → PTx LV} {as : List LV} {vs : List Value} {Q : LV → LS → Prop} {E : LX → LS → Prop} {h0 : Heap} (hf : env.frame = some env.locals) (hp : SimF prog w TS n A (.ref f) p) (W : WF TS n c A env) (h : Rel prog w (c.more [(u, methodObj (.ref f) (.ref a))]) env σ s) (ras : VRels s.heap as vs) (i : Imm h0 s.heap) (q : p (.ref a :: as) Q E σ) :
    wpAny (model prog w) A (call (.ref u) vs) (Post prog w c env VRel h0 Q) (EPost prog w c env h0 E) s := by
  refine wpAny_call (method_call (meth_of h) (codeAny_mono (hp env hf c σ s (.ref a :: as) (.ref a :: vs) W h.less (.cons (.ref a) ras) Q E q) fun r s' z => ?_))
  cases r with
  | error e => exact z.imm i
  | ok fl => cases fl with
    | ret v => exact z.imm i
    | _ => exact z.elim
theorem sim_CallMethS {C f : Nat} {x : String} {o : Expr} {apos pos : Pos} {mo : PTx LV} {m : PTx (List LV)} {p : List LV → PTx LV} {e1 : Expr} {rest : List Expr}
    (hg : plainGet TS.K C (Str.ofString x) = true) (hh : hasDictIn TS.K C = true) (hfn : findIn TS.K (.ref C) (Str.ofString x) = some (some (.ref f))) (hsp : specialIn TS.K (.ref f) "__get__" = some (some (.builtin "function.__get__"))) (htk : takesIn TS.K (.ref f) = some false) (hty : typeIn TS.K (.ref f) = some (.type "function")) (hfi : fnIn TS.K f = true) (hcp : copiedNames.contains (Str.ofString x) = false)
    (he : eval (.Call (.Attribute o (Str.ofString x) apos) (e1 :: rest) [] pos) env = (do
      let ov ← eval o env
      standAt apos.atName
      let (f, first) ← holding [ov] (do pure (← getAttr ov (Str.ofString x) true, []))
      callWith pos f first (backTo pos (starEach (e1 :: rest) env)) (backToKw pos (keywordEach [] env))))
    (hf : env.frame = some env.locals) (he1 : starEach (e1 :: rest) env = (false, eval e1 env) :: starEach rest env) (hst : (argT pos rest env).any (·.1) = true) (ho : Sim prog w TS n A env (eval o env) VRel mo) (ha : Sim prog w TS n A env (spliced (argT pos (e1 :: rest) env)) VRels m) (hp : SimF prog w TS n A (.ref f) p) :
    Sim prog w TS n A env (eval (.Call (.Attribute o (Str.ofString x) apos) (e1 :: rest) [] pos) env) VRel (pbind mo fun a => pbind (pisinst C x a) fun _ => pbind m fun as => p (a :: as)) := fun c σ s W h Q E q => by
  refine bound_go hg hh hfn hsp htk hty hcp he ho W h (K := fun a σ => m (fun as σ' => p (a :: as) Q E σ') E σ) q fun a u σ₁ s₁ h₁ W₁ i₁ q₁ => ?_
  have ha := ha _ σ₁ s₁ W₁ h₁
  unfold argT at ha hst ⊢
  rw [he1] at ha ⊢
  refine ks_call (P := MethP TS.K u f (.ref a)) (by show (false || (backTo pos (starEach rest env)).any (·.1)) = true; rw [hst]; rfl) (keeps_M hfi) (evalArgs_plain ?_)
  refine wpAny_mono (ha.go i₁ q₁ (P := fun vs s₁ => MethP TS.K u f (.ref a) s₁.heap ∧ wpAny (model prog w) A (call (.ref u) ([] ++ vs)) (Post prog w c env VRel s.heap Q) (EPost prog w c env s.heap E) s₁) fun as vs σ₂ s₂ ra h₂ i₂ j₂ q₂ => ⟨⟨meth_of h₂, W.top.kin.keeps h₂.keep⟩, call_bound hf hp W h₂ ra i₂ q₂⟩) (fun _ _ x => x) fun _ _ x => x.less
theorem sim_CallMethL {C f : Nat} {x : String} {o : Expr} {apos pos spos : Pos} {e1 : Expr} {mo m : PTx LV} {p : List LV → PTx LV}
    (hg : plainGet TS.K C (Str.ofString x) = true) (hh : hasDictIn TS.K C = true) (hfn : findIn TS.K (.ref C) (Str.ofString x) = some (some (.ref f))) (hsp : specialIn TS.K (.ref f) "__get__" = some (some (.builtin "function.__get__"))) (htk : takesIn TS.K (.ref f) = some false) (hty : typeIn TS.K (.ref f) = some (.type "function")) (hfi : fnIn TS.K f = true) (hcp : copiedNames.contains (Str.ofString x) = false)
    (he : eval (.Call (.Attribute o (Str.ofString x) apos) [.Starred e1 spos] [] pos) env = (do
      let ov ← eval o env
      standAt apos.atName
      let (f, first) ← holding [ov] (do pure (← getAttr ov (Str.ofString x) true, []))
      callWith pos f first (backTo pos (starEach [.Starred e1 spos] env)) (backToKw pos (keywordEach [] env))))
    (hf : env.frame = some env.locals) (he1 : starEach [.Starred e1 spos] env = [(true, eval e1 env)]) (ho : Sim prog w TS n A env (eval o env) VRel mo) (ha : Sim prog w TS n A env (eval e1 env) VRel m) (hp : SimF prog w TS n A (.ref f) p) :
    Sim prog w TS n A env (eval (.Call (.Attribute o (Str.ofString x) apos) [.Starred e1 spos] [] pos) env) VRel (pbind mo fun a => pbind (pisinst C x a) fun _ => pbind m fun v => pbind (pstar v) fun as => p (a :: as)) := fun c σ s W h Q E q => by
  refine bound_go hg hh hfn hsp htk hty hcp he ho W h (K := fun a σ => m (fun v σ' => pstar v (fun as σ'' => p (a :: as) Q E σ'') E σ') E σ) q fun a u σ₁ s₁ h₁ W₁ i₁ q₁ => ?_
  unfold argT
  rw [he1]
  refine ks_call (P := MethP TS.K u f (.ref a)) rfl (keeps_M hfi) (ks_lone ?_)
  refine wpAny_mono ((ha _ σ₁ s₁ W₁ h₁).go i₁ q₁ (P := fun v s₁ => StarOf (model prog w) A (EPost prog w c env s.heap E) v (fun vs s₂ => MethP TS.K u f (.ref a) s₂.heap ∧ wpAny (model prog w) A (call (.ref u) ([] ++ vs)) (Post prog w c env VRel s.heap Q) (EPost prog w c env s.heap E) s₂) s₁) fun b y σ₂ s₂ rb h₂ i₂ j₂ q₂ => at_star h₂ rb q₂ fun as vs s₃ ras h₃ i₃ q₃ => ⟨⟨meth_of h₃, W.top.kin.keeps h₃.keep⟩, call_bound hf hp W h₃ ras (i₂.trans i₃) q₃⟩) (fun _ _ x => x) fun _ _ x => x.less

-- making a thing
theorem sim_make {C fI : Nat} {p : List LV → PTx LV} (hm : makesIn TS.K C = true) (hi : findIn TS.K (.ref C) "__init__" = some (some (.ref fI))) (hfn : typeIn TS.K (.ref fI) = some (.type "function")) (hh : A.handled = none)
    (hp : ∀ A', A'.handled = none → SimF prog w TS n A' (.ref fI) p) : SimF prog w TS (n + 1) A (.ref C) (pmake C p) := fun env hf c σ s as xs W h ras Q E q => by
  obtain ⟨hh', g, dr, tk, os⟩ := s
  have X := W.top.kin.keeps h.keep
  have W' : WF TS n c (A.under (.builtin "type.__call__" ⟨.ref C :: xs, []⟩)) env := by
    refine ⟨W.sep, ?_, ?_, W.top, W.frl, W.hand, W.fr⟩
    · rw [depth_under_kw]; have := W.room; omega
    · have e : (A.under (.builtin "type.__call__" ⟨.ref C :: xs, []⟩)).units = A.units + (Code.builtin "type.__call__" ⟨.ref C :: xs, []⟩).cUnits := rfl
      have e2 : (Code.builtin "type.__call__" ⟨.ref C :: xs, []⟩).cUnits = 1 := rfl
      have := W.units
      omega
  have k1 : ∀ b o, hh'.get? b = some o → (hh'.push emptyDict).get? b = some o := fun b o e => Heap.get?_push_of_some _ e
  have h1 := h.alloc (tk := tk) (o := .attrs []) k1 ⟨[], 0, Heap.get?_push_size _ rfl, .nil⟩
  have k2 : ∀ b o, (hh'.push emptyDict).get? b = some o → ((hh'.push emptyDict).push (instObj C hh'.objs.size)).get? b = some o := fun b o e => Heap.get?_push_of_some _ e
  have h2 := h1.alloc (tk := tk) (o := .inst C hh'.objs.size []) k2 ⟨#[], Heap.get?_push_size _ rfl, .nil⟩
  dsimp only at h2
  rw [Heap.size_push] at h2
  have i2 := (Imm.of_keeps k1).trans (Imm.of_keeps k2)
  refine make_core (makes_of X hm) (looks_findIn X hi) (fun self => bind_fn X self hfn) (.inl rfl) ?_
  have ne : hh'.objs.size ≠ hh'.objs.size + 1 := Nat.ne_of_lt (Nat.lt_succ_self _)
  have f2 : σ.heap (hh'.objs.size + 1) = none := by
    have := h1.fresh_obj
    dsimp only at this
    rw [Heap.size_push] at this
    simpa [LS.put, Ne.symm ne] using this
  refine codeAny_mono (hp (A.under (.builtin "type.__call__" ⟨.ref C :: xs, []⟩)) hh env hf c _ _ (.ref (hh'.objs.size + 1) :: as) (.ref (hh'.objs.size + 1) :: xs) W' h2 (.cons (.ref _) (ras.imm i2)) _ E (q hh'.objs.size (hh'.objs.size + 1) ne h.fresh_obj f2)) fun r s' z => ?_
  cases r with
  | error e => exact z.imm i2
  | ok f =>
    cases f with
    | ret v =>
      obtain ⟨lv, σ', rv, r', im', rfl, q'⟩ := z
      cases rv
      exact ⟨rfl, _, σ', .ref _, r', i2.trans im', q'⟩
    | _ => exact z.elim
end
end Mine
end
noncomputable section
open PySem PySem.W PyProof.Rows PySem.Calls PySem.SeqAt
set_option Elab.async false
set_option linter.unusedVariables false
set_option linter.unusedSimpArgs false
namespace Mine
def bndP (names : List String) (as : List LV) : Option (List (String × LV)) := if as.length = names.length then some (names.zip as) else none
def bndV (names : List String) (va : String) (as : List LV) : Option (List (String × LV)) := if names.length ≤ as.length ∧ as.length ≤ cap then some (names.zip as ++ [(va, .tup (as.drop names.length))]) else none
theorem zip_rel {h : Heap} : ∀ {names : List String} {as : List LV} {xs : List Value}, VRels h as xs → BRel h (names.zip as) ((names.map Str.ofString).zip xs) := by
  intro names
  induction names with
  | nil => exact fun _ => .nil
  | cons n ns ih =>
    intro as xs r
    cases as with
    | nil => cases r.nil_inv; exact .nil
    | cons a as => obtain ⟨x, xs, rfl, y, r⟩ := r.cons_inv; exact .cons y (ih r)
theorem BRel.append {h : Heap} {as bs vs ws} (r : BRel h as vs) (q : BRel h bs ws) : BRel h (as ++ bs) (vs ++ ws) := by
  induction r with
  | nil => exact q
  | cons x _ ih => exact .cons x ih
section
variable {prog : Program} {w : World} {TS : TopS} {c : Cx} {A : Around} {env : Env} {σ : LS} {s : Shared} {n : Nat}
theorem bind_plain {fd : FuncData} {names : List String} (hb : ∀ (s : Shared) (xs : List Value), TS.K.In s.heap → xs.length = names.length → BindsTo s fd ⟨xs, []⟩ ((names.map Str.ofString).zip xs)) : SimBind prog w TS n A fd (bndP names) := fun c env σ s as xs bs W h ras hbs Q E g => by
  unfold bndP at hbs
  split at hbs
  · rename_i hl
    cases hbs
    refine hb s xs (W.top.kin.keeps h.keep) (by rw [← ras.length]; exact hl) _ _ _ _ ?_
    exact g _ s h (fun _ _ e => e) (zip_rel ras)
  · cases hbs
theorem bind_vararg {fd : FuncData} {names : List String} {va : String} (hb : ∀ (pre rest : List Value), pre.length = names.length → bindArgs fd ⟨pre ++ rest, []⟩ = (do let t ← newTuple rest; pure ((names.map Str.ofString).zip pre ++ [(Str.ofString va, t)]))) : SimBind prog w TS n A fd (bndV names va) := fun c env σ s as xs bs W h ras hbs Q E g => by
  unfold bndV at hbs
  split at hbs
  · rename_i hl
    cases hbs
    have hlen := ras.length
    have e : xs = xs.take names.length ++ xs.drop names.length := by simp
    have hc := cap_le
    rw [e, hb _ _ (by rw [List.length_take]; omega)]
    refine wpAny_bind (wpAny_newTuple (wpAny_pure ?_) (by rw [List.length_drop]; omega))
    have k : ∀ b o, s.heap.get? b = some o → (s.heap.push (tupObj (xs.drop names.length) 0)).get? b = some o := fun b o e => Heap.get?_push_of_some _ e
    have im := Imm.of_keeps k
    refine g _ _ (h.keeps (tk := s.toks) k) k ?_
    have e2 : names.zip as = names.zip (as.take names.length) := by
      clear hb e
      have : ∀ (l : List String) (r : List LV), l.zip r = l.zip (r.take l.length) := by
        intro l
        induction l with
        | nil => simp
        | cons x l ih => intro r; cases r with | nil => simp | cons y r => simp [ih r]
      exact this names as
    rw [e2]
    exact (zip_rel ((ras.take names.length).imm im)).append (.cons (.tup (Heap.get?_push_size _ rfl) ((ras.drop names.length).imm im)) .nil)
  · cases hbs
theorem va_add {fd : FuncData} {p1 p2 p3 : Pos} (hp : fd.params = { posonlyargs := [], args := [⟨Str.ofString "self", none, p1⟩, ⟨Str.ofString "node", none, p2⟩], vararg := some ⟨Str.ofString "predecessors", none, p3⟩, kwonlyargs := [], kw_defaults := [], kwarg := none, defaults := [] }) (hd : fd.defaults = .none) (pre rest : List Value) (hl : pre.length = 2) :
    bindArgs fd ⟨pre ++ rest, []⟩ = (do let t ← newTuple rest; pure ((["self", "node"].map Str.ofString).zip pre ++ [(Str.ofString "predecessors", t)])) := by
  obtain ⟨x, pre, rfl⟩ := List.exists_cons_of_length_eq_add_one hl
  obtain ⟨y, rfl⟩ := List.length_eq_one_iff.mp (Nat.succ.inj hl)
  cases fd
  cases hp; cases hd
  cases rest <;> kernel_rfl
theorem va_done {fd : FuncData} {p1 p3 : Pos} (hp : fd.params = { posonlyargs := [], args := [⟨Str.ofString "self", none, p1⟩], vararg := some ⟨Str.ofString "nodes", none, p3⟩, kwonlyargs := [], kw_defaults := [], kwarg := none, defaults := [] }) (hd : fd.defaults = .none) (pre rest : List Value) (hl : pre.length = 1) :
    bindArgs fd ⟨pre ++ rest, []⟩ = (do let t ← newTuple rest; pure ((["self"].map Str.ofString).zip pre ++ [(Str.ofString "nodes", t)])) := by
  obtain ⟨x, rfl⟩ := List.length_eq_one_iff.mp hl
  cases fd
  cases hp; cases hd
  cases rest <;> kernel_rfl
end
end Mine
end
noncomputable section
open PySem PySem.W PyProof.Rows PySem.Calls PySem.SeqAt
set_option Elab.async false
set_option linter.unusedVariables false
set_option linter.unusedSimpArgs false
set_option maxRecDepth 100000
namespace Mine
/-- xs[k] from the end -/
def plneg : LV → LV → PTx LV
  | .ref a, .int k => fun Q _ σ => ∃ xs v, σ.heap a = some (.list xs) ∧ k < 0 ∧ 0 ≤ k + xs.length ∧ xs[(k + xs.length).toNat]? = some v ∧ Q v σ
  | _, _ => pfail
section
variable {prog : Program} {w : World} {TS : TopS} {c : Cx} {A : Around} {env : Env} {σ : LS} {s : Shared} {n : Nat}

theorem tail_plneg {value slice : Expr} (hs : ∀ o i, subscripted slice false o i = operate [o, i] (getItem o i)) : Tail2 prog w TS n A env value slice plneg := fun c σ s a x b y W h ra rb Q E q => by
  unfold plneg at q; split at q
  · obtain ⟨xs, v, e, hk, hk2, hx, q⟩ := q
    cases ra.ref_inv; obtain ⟨t, rfl⟩ := rb.int_inv
    obtain ⟨hz, it, n1, l1, r1⟩ := h.list_at e
    have hsz := r1.sizeA
    have := cap_big
    obtain ⟨u, h1, h2⟩ := r1.getA hx
    rw [← hsz] at h1 hk2
    exact tail_any l1.isList.typeIs slot_list_getitem.lookup (wpAny_getItem_list_neg l1.isList hk (by omega) (by omega) h1 ⟨v, σ, h2, h, Imm.refl _, q⟩) (hs _ _)
  · exact q.elim

theorem slice_push (h : Rel prog w c env σ s) (l u st : Value) : Rel prog w c env σ { s with heap := s.heap.push { cls := .type "slice", data := .fields #[l, u, st] } } ∧ Imm s.heap (s.heap.push { cls := .type "slice", data := .fields #[l, u, st] }) :=
  have k : ∀ b o, s.heap.get? b = some o → (s.heap.push { cls := .type "slice", data := .fields #[l, u, st] }).get? b = some o := fun b o e => Heap.get?_push_of_some _ e
  ⟨h.keeps (tk := s.toks) k, Imm.of_keeps k⟩
theorem sim_from {value lo : Expr} {p pos : Pos} {mo ml : PTx LV} (ho : Sim prog w TS n A env (eval value env) VRel mo) (hl : Sim prog w TS n A env (eval lo env) VRel ml) (ht : ∀ o r, letTemporaryGo value o r = pure ()) :
    Sim prog w TS n A env (eval (.Subscript value (.Slice (some lo) none none p) pos) env) VRel (pbind mo fun a => pbind ml fun b => pfrom a b) := fun c σ s W h Q E q => by
  refine wpAny_Subscript_Slice slot_list_getitem.lookup ((ho c σ s W h).go (Imm.refl _) q fun a x σ₁ s₁ ra h₁ i₁ j₁ q₁ => wpAny_Slice ((hl c σ₁ s₁ W h₁).go i₁ q₁ fun b y σ₂ s₂ rb h₂ i₂ j₂ q₂ => wpAny_pure (wpAny_pure ?_))) ht
  have ra := ra.imm j₂
  cases a with
  | ref a9 =>
   cases b with
   | int k9 =>
    obtain ⟨xs, e, hk, q₂⟩ := q₂
    cases ra.ref_inv; obtain ⟨t, rfl⟩ := rb.int_inv
    obtain ⟨h₃, i₃⟩ := slice_push h₂ (.int k9 t) .none .none
    obtain ⟨hz, it, n1, l1, r1⟩ := h₃.list_at e
    have hsz := r1.sizeA
    have := cap_le
    refine ⟨l1.isList.typeIs, wpAny_getItem_list_slice l1.isList (Heap.IsSliceOf.new ..) (.int _ _) .none .none (by simp) ?_ (by omega)⟩
    have e9 : slicePick it (some k9) none none = (it.toList.drop k9.toNat).toArray := by
      have := slicePick_from' it k9.toNat
      rwa [Int.toNat_of_nonneg hk] at this
    rw [e9]
    have k : ∀ b o, (s₂.heap.push { cls := .type "slice", data := .fields #[.int k9 t, .none, .none] }).get? b = some o → ((s₂.heap.push { cls := .type "slice", data := .fields #[.int k9 t, .none, .none] }).push { cls := .type "list", data := .seq (it.toList.drop k9.toNat).toArray }).get? b = some o := fun b o e => Heap.get?_push_of_some _ e
    have h₄ := h₃.alloc (tk := s₂.toks) (o := .list (xs.drop k9.toNat)) k ⟨by rw [List.length_drop]; omega, _, 0, Heap.get?_push_size _ rfl, by simpa using (r1.drop k9.toNat).imm (Imm.of_keeps k)⟩
    exact ⟨_, _, .ref _, h₄, (i₂.trans i₃).trans (Imm.of_keeps k), q₂ _ h₃.fresh_obj⟩
   | _ => exact q₂.elim
  | _ => exact q₂.elim

-- or
theorem sim_Or {x y : Expr} {pos : Pos} {m k : PTx LV} {t : LV → PTx Bool} (hx : Sim prog w TS n A env (eval x env) VRel m) (ht : Sim1 prog w TS n A env truthy REq t) (hy : Sim prog w TS n A env (eval y env) VRel k) :
    Sim prog w TS n A env (eval (.BoolOp .Or [x, y] pos) env) VRel (pbind m fun a => pbind (t a) fun b => fun Q E σ => if b = true then Q a σ else k Q E σ) := fun c σ s W h Q E q => by
  rw [arm_eval_BoolOp]
  show wpAny _ A (boolOp pos .Or [eval x env, eval y env]) _ _ s
  unfold boolOp
  refine wpAny_bind ((hx c σ s W h).go (Imm.refl _) q fun a v σ₁ s₁ ra h₁ i₁ j₁ q₁ => wpAny_bind (wpAny_standAt (wpAny_bind (wpAny_holding ((ht c σ₁ s₁ a v W h₁ ra).go i₁ q₁ fun b b' σ₂ s₂ rb h₂ i₂ j₂ q₂ => ?_)))))
  cases show b = b' from rb
  cases b with
  | true => exact wpAny_pure ⟨a, σ₂, ra.imm j₂, h₂, i₂, by simpa using q₂⟩
  | false => exact (hy c σ₂ s₂ W h₂).fin i₂ (by simpa using q₂)
-- bool(list)
def pbool : List LV → PTx LV
  | [.ref a] => fun Q _ σ => ∃ xs, σ.heap a = some (.list xs) ∧ Q (.bool (!xs.isEmpty)) σ
  | _ => pfail
theorem bool_new_eq (x : Value) : Builtin.«bool.__new__» ⟨[.type "bool", x], []⟩ = (do ret (.bool (← truthy x))) := by
  unfold Builtin.«bool.__new__»
  simp only [isType, pure_bind, F.conv_sub_bool, Bool.not_true, Bool.false_eq_true, if_false]
  rfl
theorem bool_new_list {a : Addr} {it : Array Value} {n1 : Nat} (hz : it.size ≤ cap) : Meets (Builtin.«bool.__new__» ⟨[.type "bool", .ref a], []⟩) (fun A R s => IsL s.heap a it n1 ∧ R (.ok (.ret (.bool (!it.isEmpty)))) { s with toks := s.toks + 1 + 1 }) :=
  Meets.of_wp fun prog w A R s hs => by
    obtain ⟨l1, hs⟩ := hs
    rw [bool_new_eq]
    refine wpAny_bind (wpAny_truthy_list l1.isList (by have : cap < 2 ^ 62 := by decide
                                                       omega) (wpAny_pure ⟨_, rfl, hs⟩))
theorem sim_boolC : SimL prog w TS n A env (fun vs => call (.type "bool") vs) VRel pbool := fun c σ s as xs W h ras Q E q => by
  unfold pbool at q; split at q
  · obtain ⟨ys, e, q⟩ := q
    obtain ⟨x, rfl, rx⟩ := ras.one_inv
    cases rx.ref_inv
    obtain ⟨hz, it, n1, l1, r1⟩ := h.list_at e
    have hsz := r1.sizeA
    refine call_bool_1 (bool_new_list (n1 := n1) (it := it) (by omega)) ⟨l1, rfl, _, σ, ?_, h.toks _, Imm.refl _, q⟩
    have : (!it.isEmpty) = !ys.isEmpty := by
      congr 1
      rw [Bool.eq_iff_iff]; simp only [List.isEmpty_iff_length_eq_zero, Array.isEmpty_iff_size_eq_zero]; omega
    rw [this]; exact .bool _
  · exact q.elim

-- lists that differ
theorem ne_loopAt (l b : Addr) (items items2 : Array Value) (n n2 : Nat) (dd dd2 : Option Addr) (sl sl2 : Array (Option Value)) (hsz : items.size = items2.size) (e : Nat → Bool) (k : Nat) :
    ∀ i : Nat, items.size - i = k → Meets (Builtin.«list.__eq__.loop» ⟨[.ref l, .ref b, rawInt i, rawInt 3], []⟩)
      (fun A R s => s.heap.get? l = some { cls := .type "list", dict := dd, data := .seq items n, slots := sl } ∧ s.heap.get? b = some { cls := .type "list", dict := dd2, data := .seq items2 n2, slots := sl2 } ∧
        (∀ j (h1 : j < items.size) (h2 : j < items2.size), EqAt A.in1 s items[j] items2[j] (e j)) ∧
        R (.ok (.ret (.bool (!((List.range items.size).drop i).all e)))) s) := by
  induction k with
  | zero =>
    intro i hk prog w A R s h
    obtain ⟨hp, g, d, tk, os⟩ := s; obtain ⟨hl, hb, he, h⟩ := h
    wp_walk using AutoSeq1.wpAny_loadPart' hl, AutoSeq1.wpAny_loadPart' hb
    have hi1 : items[((i : Nat) : Int).toNat]? = none := by simp; omega
    have hi2 : items2[((i : Nat) : Int).toNat]? = none := by simp; omega
    have hd : (List.range items.size).drop i = [] := by simp; omega
    rw [hd] at h
    rw [hi1, hi2]
    wp_walk using AutoSeq1.wpAny_loadPart' hl, AutoSeq1.wpAny_loadPart' hb
    show R (.ok (.ret (.bool (items.size != items2.size)))) _
    rw [hsz]
    simpa using h
  | succ k ih =>
    intro i hk prog w A R s h
    obtain ⟨hp, g, d, tk, os⟩ := s; obtain ⟨hl, hb, he, h⟩ := h
    wp_walk using AutoSeq1.wpAny_loadPart' hl, AutoSeq1.wpAny_loadPart' hb
    have hlt : i < items.size := by omega
    have hlt2 : i < items2.size := by omega
    have hi1 : items[((i : Nat) : Int).toNat]? = some items[i] := by simp [hlt]
    have hi2 : items2[((i : Nat) : Int).toNat]? = some items2[i] := by simp [hlt2]
    have hd : (List.range items.size).drop i = i :: (List.range items.size).drop (i + 1) := by simp [List.drop_eq_getElem_cons, hlt]
    have hc : ((i : Int) + 1) = ((i + 1 : Nat) : Int) := by push_cast; rfl
    rw [hd, List.all_cons] at h
    rw [hi1, hi2]
    refine wpAny_bind (he i hlt hlt2 prog w _ _ ?_)
    cases hb' : e i with
    | true =>
      rw [hb'] at h
      wp_walk
      rw [hc]
      exact ⟨plainId_quiet MeetsSeq3.plain_eq_loop _, codeAny_builtin MeetsSeq3.entry_eq_loop (by
        rw [Around.under_plainId MeetsSeq3.plain_eq_loop _]
        exact ih (i + 1) (by omega) prog w A R _ ⟨hl, hb, he, by simpa using h⟩)⟩
    | false =>
      rw [hb'] at h
      wp_walk using AutoSeq1.wpAny_loadPart' hl, AutoSeq1.wpAny_loadPart' hb
      rw [hi1, hi2]
      wp_walk
      simpa using h
theorem list_neAt (l b : Addr) (items items2 : Array Value) (n n2 : Nat) (dd dd2 : Option Addr) (sl sl2 : Array (Option Value)) (hsz : items.size = items2.size) (e : Nat → Bool) :
    Meets (Builtin.«list.__ne__» ⟨[.ref l, .ref b], []⟩)
      (fun A R s => s.heap.get? l = some { cls := .type "list", dict := dd, data := .seq items n, slots := sl } ∧ s.heap.get? b = some { cls := .type "list", dict := dd2, data := .seq items2 n2, slots := sl2 } ∧
        (∀ j (h1 : j < items.size) (h2 : j < items2.size), EqAt A.in1 s items[j] items2[j] (e j)) ∧
        R (.ok (.ret (.bool (!(List.range items.size).all e)))) s) := by
  intro prog w A R s h
  obtain ⟨hp, g, d, tk, os⟩ := s; obtain ⟨hl, hb, he, h⟩ := h
  have f3 := AutoSeq1.sub_list_list
  have hne : ¬ (items.size != items2.size) = true := by simp [hsz]
  wp_walk using AutoSeq1.wpAny_loadPart' hl, AutoSeq1.wpAny_loadPart' hb
  exact ⟨plainId_quiet MeetsSeq3.plain_eq_loop _, codeAny_builtin MeetsSeq3.entry_eq_loop (by
    rw [Around.under_plainId MeetsSeq3.plain_eq_loop _]
    exact ne_loopAt l b items items2 n n2 dd dd2 sl sl2 hsz e _ 0 rfl prog w A R _ ⟨hl, hb, he, by simpa using h⟩)⟩
theorem list_ne_lengthsAt (l b : Addr) (items items2 : Array Value) (n n2 : Nat) (dd dd2 : Option Addr) (sl sl2 : Array (Option Value)) (hc0 : (items.size != items2.size) = true) :
    Meets (Builtin.«list.__ne__» ⟨[.ref l, .ref b], []⟩)
      (fun _ R s => s.heap.get? l = some { cls := .type "list", dict := dd, data := .seq items n, slots := sl } ∧ s.heap.get? b = some { cls := .type "list", dict := dd2, data := .seq items2 n2, slots := sl2 } ∧
        R (.ok (.ret (.bool true))) s) :=
  .of_wp fun prog w A R s h => by
    obtain ⟨hp, g, d, tk, os⟩ := s; obtain ⟨hl, hb, h⟩ := h
    have f3 := AutoSeq1.sub_list_list
    wp_walk using AutoSeq1.wpAny_loadPart' hl, AutoSeq1.wpAny_loadPart' hb
    exact ⟨_, rfl, h⟩

theorem ne_listAt {l b : Addr} {items items2 : Array Value} {e : Nat → Bool} {Q : Value → Shared → Prop} {E : Value → Shared → Prop} (hl : s.heap.IsList l items) (hb : s.heap.IsList b items2) (hsz : items.size = items2.size) (hu : A.units < cLine)
    (he : ∀ j (h1 : j < items.size) (h2 : j < items2.size), EqAt A.in1 s items[j] items2[j] (e j)) (h : Q (.bool (!(List.range items.size).all e)) s) : wpAny (model prog w) A (compareOp .NotEq (.ref l) (.ref b)) Q E s := by
  obtain ⟨⟨cls, dd, data, sl⟩, ho, hc, n, hd⟩ := id hl
  obtain ⟨⟨cls2, dd2, data2, sl2⟩, ho2, hc2, n2, hd2⟩ := id hb
  simp only at hc hd hc2 hd2
  subst hc hd hc2 hd2
  exact richCompare_meets_room (op := .NotEq) ⟨_, ho, rfl⟩ ⟨_, ho2, rfl⟩ F.slot_list_ne F.entry_list_ne (F.args_list_ne_2 _ _) (list_neAt l b items items2 n n2 dd dd2 sl sl2 hsz e)
    ⟨ho, ho2, he, show Value.bool _ ≠ Value.notImplemented ∧ Q (.bool (!(List.range items.size).all e)) s from ⟨(fun x => nomatch x), h⟩⟩ hu
theorem ne_list_lengthsAt {l b : Addr} {items items2 : Array Value} {Q : Value → Shared → Prop} {E : Value → Shared → Prop} (hl : s.heap.IsList l items) (hb : s.heap.IsList b items2) (hsz : (items.size != items2.size) = true) (hu : A.units < cLine)
    (h : Q (.bool true) s) : wpAny (model prog w) A (compareOp .NotEq (.ref l) (.ref b)) Q E s := by
  obtain ⟨⟨cls, dd, data, sl⟩, ho, hc, n, hd⟩ := id hl
  obtain ⟨⟨cls2, dd2, data2, sl2⟩, ho2, hc2, n2, hd2⟩ := id hb
  simp only at hc hd hc2 hd2
  subst hc hd hc2 hd2
  exact richCompare_meets_room (op := .NotEq) ⟨_, ho, rfl⟩ ⟨_, ho2, rfl⟩ F.slot_list_ne F.entry_list_ne (F.args_list_ne_2 _ _) (list_ne_lengthsAt l b items items2 n n2 dd dd2 sl sl2 hsz)
    ⟨ho, ho2, show Value.bool true ≠ Value.notImplemented ∧ Q (.bool true) s from ⟨(fun x => nomatch x), h⟩⟩ hu
theorem sim_plne : Sim2 prog w TS n A env (compareOp .NotEq) RB (pnot pleq) := fun c σ s a x b y W h ra rb Q E q => by
  unfold pnot pleq at q; split at q
  · obtain ⟨is, js, e1, e2, q⟩ := q
    cases ra.ref_inv; cases rb.ref_inv
    obtain ⟨hz, it, n1, l1, r1⟩ := h.list_at e1
    obtain ⟨hz2, it2, n2, l2, r2⟩ := h.list_at e2
    have hi := ints_inv r1; have hj := ints_inv r2
    have s1 := r1.sizeA; have s2 := r2.sizeA
    simp only [List.length_map] at s1 s2
    have hu : A.units < cLine := Nat.lt_of_le_of_lt (Nat.le_add_right _ _) W.units
    by_cases hl : is.length = js.length
    · refine ne_listAt (e := fun j => is[j]? == js[j]?) l1.isList l2.isList (by omega) hu (fun j h1 h2 => ?_) ⟨_, σ, ?_, h, Imm.refl _, q⟩
      · obtain ⟨i, t, e3, e4⟩ := IntsAre.getA hi h1
        obtain ⟨i2, t2, e5, e6⟩ := IntsAre.getA hj h2
        rw [e3, e5, e4, e6]
        exact (eqGives_int i i2 t t2).at _ _
      · show _ = _
        rw [s1, ints_range hl]
    · refine ne_list_lengthsAt l1.isList l2.isList (by simp; omega) hu ⟨_, σ, ?_, h, Imm.refl _, q⟩
      show _ = _
      have : (is == js) = false := beq_eq_false_iff_ne.mpr fun e => hl (by rw [e])
      rw [this]; rfl
  · exact q.elim
theorem sim_plne0 : Sim2 prog w TS n A env (compareOp .NotEq) RB (pnot pleq0) := fun c σ s a x b y W h ra rb Q E q => by
  unfold pnot pleq0 at q; split at q
  · obtain ⟨xs, e1, e2, q⟩ := q
    cases ra.ref_inv; cases rb.ref_inv
    obtain ⟨hz, it, n1, l1, r1⟩ := h.list_at e1
    obtain ⟨hz2, it2, n2, l2, r2⟩ := h.list_at e2
    have s1 := r1.sizeA; have s2 := r2.sizeA
    have hu : A.units < cLine := Nat.lt_of_le_of_lt (Nat.le_add_right _ _) W.units
    cases xs with
    | nil =>
      simp only [List.length_nil] at s1 s2
      refine ne_listAt (e := fun _ => true) l1.isList l2.isList (by omega) hu (fun j h1 h2 => absurd h1 (by omega)) ⟨_, σ, ?_, h, Imm.refl _, q⟩
      show _ = _; rw [s1]; rfl
    | cons v vs =>
      simp only [List.length_nil, List.length_cons] at s1 s2
      refine ne_list_lengthsAt l1.isList l2.isList (by simp; omega) hu ⟨_, σ, ?_, h, Imm.refl _, q⟩
      rfl
  · exact q.elim
end
end Mine
end
noncomputable section
open PySem PySem.W PyProof.Rows PySem.Calls PySem.SeqAt
set_option Elab.async false
set_option linter.unusedVariables false
set_option linter.unusedSimpArgs false
set_option maxRecDepth 100000
namespace Mine
def plitemH : LV → LV → PTx LV
  | .ref a, .int k => fun Q E σ => ∃ xs, σ.heap a = some (.list xs) ∧ 0 ≤ k ∧ k < 2 ^ 60 ∧ (match xs[k.toNat]? with | some v => Q v σ | none => E ⟨"IndexError", true⟩ σ)
  | _, _ => pfail
theorem entry_unchain : entryFor table "proto.unchain" = some Builtin.«proto.unchain» := entryFor_of_fast (by kernel_rfl)
theorem plain_unchain : plainId "proto.unchain" = true := by decide +kernel
section
variable {prog : Program} {w : World} {TS : TopS} {c : Cx} {A : Around} {env : Env} {σ : LS} {s : Shared} {n : Nat}

structure NewExcH (h h' : Heap) (e e0 : Addr) (cls : String) : Prop where
  keeps : ∀ b o, h.get? b = some o → h'.get? b = some o
  new : h.get? e = none
  there : ∃ ob t, h'.get? e = some ob ∧ ob.cls = .type cls ∧ ob.data = .fields #[t, .none, .ref e0, .none, .bool false, .none]

/-- an error raised while another is handled -/
theorem raise_under {α : Type} {cls msg : String} {e0 : Addr} {o0 : Obj} {vs0 : Array Value} {Q : α → Shared → Prop} {E : Value → Shared → Prop} (hp : PlainExc cls) (hh : A.handled = some (.ref e0)) (h0 : s.heap.get? e0 = some o0) (hd : o0.data = .fields vs0) (hc : vs0[2]? = some .none)
    (h : ∀ h' tk e, NewExcH s.heap h' e e0 cls → E (.ref e) { s with heap := h', toks := tk }) : wpAny (model prog w) A (raiseErrorWords cls msg : Sem α) Q E s := by
  unfold raiseErrorWords
  refine wpAny_bind (wpAny_mkText (wpAny_bind ?_))
  unfold newExc newTuple
  refine wpAny_bind (wpAny_newObj_type ?_)
  refine wpAny_bind (m := firstArgMember _ _) (wpAny_of_eq (a := Value.none) (by simp only [firstArgMember, hp.first]; rfl) ?_)
  rw [hp.own]
  refine wpAny_newObj_type ?_
  unfold raiseNew
  refine wpAny_bind (wpAny_handled ?_)
  rw [hh]
  dsimp only
  generalize ht : Value.ref s.heap.objs.size = tv
  generalize hH : s.heap.push { cls := .type "tuple", dict := none, data := .seq [.str (Str.ofString msg) s.toks].toArray } = H1
  have k1 : ∀ b o, s.heap.get? b = some o → H1.get? b = some o := fun b o e => hH ▸ Heap.get?_push_of_some _ e
  have hlt : e0 < H1.objs.size := Heap.lt_size (k1 _ _ h0)
  have hne : (Value.ref e0 != Value.ref H1.objs.size) = true := by
    have : e0 ≠ H1.objs.size := Nat.ne_of_lt hlt
    simp [this]
  rw [if_pos hne]
  have h0' := Heap.get?_push_of_some (h := H1) { cls := .type cls, dict := none, data := .fields (#[tv, .none, .none, .none, .bool false, .none] ++ #[]) } (k1 _ _ h0)
  refine wpAny_bind (wpAny_holding (wpAny_runValue (codeAny_builtin entry_unchain ?_)))
  rw [Around.under_plainId plain_unchain _]
  unfold Builtin.«proto.unchain»
  refine wpAny_bind (wpAny_field h0' hd hc ?_)
  rw [if_pos (show (Value.none == Value.none) = true from rfl)]
  refine wpAny_pure ?_
  show wpAny _ A (setField (.ref H1.objs.size) 2 (.ref e0) >>= fun _ => throw (.ref H1.objs.size)) _ _ _
  have hnew := Heap.get?_push_size H1 (o := { cls := .type cls, dict := none, data := .fields (#[tv, .none, .none, .none, .bool false, .none] ++ #[]) }) rfl
  refine wpAny_bind (wpAny_setField hnew rfl (by simp) (wpAny_throw (h _ _ _ ⟨fun b o e => ?_, ?_, _, tv, Heap.get?_update_self _ hnew rfl, rfl, ?_⟩)))
  · rw [Heap.get?_update_other _ _ (Ne.symm (Nat.ne_of_lt (Heap.lt_size (k1 _ _ e))))]
    exact Heap.get?_push_of_some _ (k1 _ _ e)
  · rw [← hH]; exact Heap.get?_none_of_le (by simp)
  · simp [Obj.mapFields]

theorem getItem_out_under {l : Addr} {items : Array Value} {k : Int} {t : Tok} {e0 : Addr} {o0 : Obj} {vs0 : Array Value} {Q : Value → Shared → Prop} {E : Value → Shared → Prop} (hh : A.handled = some (.ref e0)) (h0 : s.heap.get? e0 = some o0) (hd0 : o0.data = .fields vs0) (hc0 : vs0[2]? = some .none) (hl : s.heap.IsList l items)
    (hk : 0 ≤ k) (hout : (items.size : Int) ≤ k) (hhi : k < 2 ^ 63)
    (hE : ∀ h' tk e, NewExcH s.heap h' e e0 "IndexError" → E (.ref e) { s with heap := h', toks := tk }) :
    wpAny (model prog w) A (getItem (.ref l) (.int k t)) Q E s := by
  obtain ⟨o, ho, hc, ne, hd⟩ := id hl
  unfold getItem
  try with_reducible refine wpAny_holding ?_
  first | refine wpAny_bind (wpAny_pure ?_) | skip
  refine wpAny_bind (wpAny_sequenceKey hl.typeIs (by decide) ?_)
  refine wpAny_bind (wpAny_callSpecial?_slot (name := Str.ofString "__getitem__") hl.typeIs slot_list_getitem
    (wpAny_call_entry slot_list_getitem hl.typeIs entry_list_getitem ?_ (args_list_getitem _ _)))
  show wpAny _ _ (Builtin.List.listSubscript? (.int k t) >>= _) _ _ s
  refine wpAny_bind (wpAny_listSubscript_int (fitsIndex_both (by omega) hhi) ?_)
  clear hhi
  cases k with
  | ofNat j =>
    have hx : items[j]? = none := Array.getElem?_eq_none (by have : (items.size : Int) ≤ (j : Int) := hout; omega)
    show wpAny _ _ ((seqItemAt l j >>= fun r => pure (r.map (j, ·))) >>= _) _ _ s
    refine wpAny_bind (wpAny_bind (wpAny_seqItemAt ho hd (wpAny_pure ?_)))
    rw [hx]
    first
      | exact wpAny_bind (wpAny_rule (raise_under plainExc_IndexError hh h0 hd0 hc0 hE))
      | exact wpAny_bind (wpAny_rule (wpAny_bind (raise_under plainExc_IndexError hh h0 hd0 hc0 hE)))
      | exact wpAny_bind (wpAny_bind (wpAny_rule (raise_under plainExc_IndexError hh h0 hd0 hc0 hE)))
      | exact wpAny_rule (raise_under plainExc_IndexError hh h0 hd0 hc0 hE)
  | negSucc j => exact absurd hk (by omega)
theorem newExcH_at {nm : String} {h' : Heap} {tk : Nat} {e e0 : Addr} (h : Rel prog w c env σ s) (N : NewExcH s.heap h' e e0 nm) (hx : nm = "IndexError" ∨ nm = "StopIteration") :
    ExcAt c env σ h' ⟨nm, true⟩ (.ref e) ∧ Rel prog w c env σ { s with heap := h', toks := tk } ∧ Imm s.heap h' := by
  have k := N.keeps
  have hn := N.new
  obtain ⟨ob, args, e1, e2, e3⟩ := N.there
  refine ⟨⟨e, ob, _, rfl, ⟨e1, e2, hx, e3, ⟨?_, ?_, ?_⟩, by simp, fun q => by cases q⟩, .inl rfl⟩, h.keeps k, Imm.of_keeps k⟩
  · cases q : c.base.get? e with
    | none => rfl
    | some o => have := h.keep _ _ q; rw [hn] at this; cases this
  · cases q : σ.heap e with
    | none => rfl
    | some o => obtain ⟨ob, e', _⟩ := (h.obj _ o q).notImm; rw [hn] at e'; cases e'
  · rintro p hp rfl
    obtain ⟨og, g, _⟩ := h.guard p hp
    rw [hn] at g; cases g
theorem tail_plitemH {value slice : Expr} {e0 : Addr} (hon : TS.hnd = true) (hh : A.handled = some (.ref e0)) (hs : ∀ o i, subscripted slice false o i = operate [o, i] (getItem o i)) : Tail2 prog w TS n A env value slice plitemH := fun c σ s a x b y W h ra rb Q E q => by
  unfold plitemH at q; split at q
  · obtain ⟨xs, e, h0, hk, q⟩ := q
    cases ra.ref_inv; obtain ⟨t, rfl⟩ := rb.int_inv
    obtain ⟨hz, it, n1, l1, r1⟩ := h.list_at e
    have hsz := r1.sizeA
    split at q
    · rename_i v hx
      obtain ⟨u, h1, h2⟩ := r1.getA hx
      exact tail_any l1.isList.typeIs slot_list_getitem.lookup (wpAny_getItem_list l1.isList h0 (by omega) h1 ⟨v, σ, h2, h, Imm.refl _, q⟩) (hs _ _)
    · rename_i hx
      have hge := List.getElem?_eq_none_iff.mp hx
      obtain ⟨o, vs, g1, g2, g3⟩ := W.hand hon e0 hh
      obtain ⟨og, q1, q2, q3, _⟩ := h.guard _ g1
      refine tail_any l1.isList.typeIs slot_list_getitem.lookup (getItem_out_under hh q1 (q3.trans g2) g3 l1.isList h0 (by omega) (by omega) fun h' tk e N => ?_) (hs _ _)
      obtain ⟨z1, z2, z3⟩ := newExcH_at (tk := tk) h N (.inl rfl)
      exact ⟨_, σ, z1, z2, z3, q⟩
  · exact q.elim

/-- the rules of a mark: nothing but the handled changes -/
theorem WF.mark {e0 : Addr} (W : WF TS n c A env) (hh : TS.hnd = true → ∃ o vs, (e0, o) ∈ c.G ∧ o.data = .fields vs ∧ vs[2]? = some .none) : WF TS n c (A.mark (some (.ref e0))) env :=
  ⟨W.sep, W.room, W.units, W.top, W.frl, fun q e1 h1 => by cases h1; exact hh q, W.fr⟩
abbrev TopS.off (TS : TopS) : TopS := { TS with hnd := false }
theorem WF.off (W : WF TS n c A env) : WF TS.off n c A env := ⟨W.sep, W.room, W.units, ⟨W.top.nolimit, W.top.globs, W.top.kin, W.top.sysm, W.top.scr⟩, W.frl, fun q => (nomatch q), W.fr⟩
theorem WF.markOff {e0 : Addr} (W : WF TS n c A env) : WF TS.off n c (A.mark (some (.ref e0))) env := WF.mark (TS := TS.off) W.off fun q => by cases q

theorem sim_TryExcept {body : List Stmt} {b₀ : Stmt} {suite : List Stmt} {nm : String} {np hpos pos : Pos} {mb ms : PTx LF} (hf : env.frame = some env.locals) (hv : TS.gl nm = some (.type nm)) (hk : env.kindOf (Str.ofString nm) = some .globalImplicit) (hd : (Str.ofString nm == ("__debug__" : Str)) = false)
    (hexc : isSubtype (.type nm) (.type "BaseException") = pure true) (hnt : isSubtype (.type ((Manifest.find? nm).elim "type" fun x => x.metatype)) (.type "tuple") = pure false) (hsub : isSubtype (.type nm) (.type nm) = pure true)
    (hb : Sim prog w TS n A env (execs body env) FlRel mb) (hs : ∀ e0, Sim prog w TS.off n (A.mark (some (.ref e0))) env (execs (b₀ :: suite) env) FlRel ms) :
    Sim prog w TS n A env (exec (.Try body [.ExceptHandler (some (.Name (Str.ofString nm) np)) none (b₀ :: suite) hpos] [] [] pos) env) FlRel (fun Q E σ => mb Q (fun x σ' => x.name = nm ∧ ms Q noE σ') σ) := fun c σ s W h Q E q => by
  refine wpAny_Try_except (wpAny_mono (hb c σ s W h _ _ q) (fun f s₁ p => ?_) fun e s₁ p => ?_)
  · cases f with
    | next => exact wpAny_execs_nil p
    | _ => exact p
  · obtain ⟨x, σ₁, y, h₁, i₁, hx, q₁⟩ := p
    refine at_note W hf h₁ y fun h₂ r₂ y₂ i₂ => at_flight r₂ y₂ fun h₃ r₃ y₃ i₃ => ?_
    obtain ⟨ea, oe, vs, T, oT, ts, rfl, ob, e1, tb⟩ := id y₃
    have W' : WF TS.off n c (A.mark (some (.ref ea))) env := W.markOff
    refine wpAny_handleBy_builtin (b := true) hexc hnt hsub (at_glob (TS := TS.off) hv hk hd W' r₃ ⟨rfl, ⟨oe, ob.at_, by rw [ob.cls, hx]⟩, ?_⟩)
    rw [if_pos rfl]
    refine at_flight r₃ y₃ fun h₄ r₄ y₄ i₄ => wpAny_mono ((hs ea c σ₁ _ W' r₄).go (((i₁.trans i₂).trans i₃).trans i₄) q₁ (P := fun f s' => Post prog w c env FlRel s.heap Q f s') fun f v σ₅ s₅ rf h₅ i₅ j₅ q₅ => ⟨f, σ₅, rf, h₅, i₅, q₅⟩) (fun _ _ x => x) fun _ _ x => x.no.elim

/-- what is noted of an exception stands on where its objects do -/
theorem ExcTb.again {x : LX} {ea T : Addr} {oe oT : Obj} {vs ts : Array Value} {fl : Value} {h : Heap} {σ' : LS} {s' : Shared} (ob : ExcOb c σ h x ea oe vs) (e1 : vs[1]? = some (.ref T)) (tb : TbOb c σ h fl T oT ts) (r : Rel prog w (c.more [(ea, oe), (T, oT)]) env σ' s') : ExcTb c σ' s'.heap x (.ref ea) fl := by
  obtain ⟨og, g, g1, g2, _⟩ := r.guard (ea, oe) (.head _)
  obtain ⟨og', g', g1', g2', _⟩ := r.guard (T, oT) (.tail _ (.head _))
  have no : ∀ p ∈ [(ea, oe), (T, oT)], σ'.heap p.1 = none := fun p hp => by
    cases q : σ'.heap p.1 with
    | none => rfl
    | some o => exact absurd rfl ((r.dom _ o q).2.2.1 p (List.mem_append_left _ hp))
  exact ⟨ea, og, vs, T, og', ts, rfl, ⟨g, g1.trans ob.cls, ob.name, g2.trans ob.data, ⟨ob.off.1, no _ (.head _), ob.off.2.2⟩, ob.size, ob.ctx⟩, e1, ⟨g', g1'.trans tb.cls, g2'.trans tb.data, tb.fl, ⟨tb.off.1, no _ (.tail _ (.head _)), tb.off.2.2⟩⟩⟩

theorem sim_TryFinally {body : List Stmt} {f₀ : Stmt} {fs : List Stmt} {pos : Pos} {mb mf mg : PTx LF} (hf : env.frame = some env.locals)
    (hb : Sim prog w TS n A env (execs body env) FlRel mb) (h1 : Sim prog w TS n A env (execs (f₀ :: fs) env) FlRel mf) (h2 : ∀ e0, Sim prog w TS n (A.mark (some (.ref e0))) env (execs (f₀ :: fs) env) FlRel mg) :
    Sim prog w TS n A env (exec (.Try body [] [] (f₀ :: fs) pos) env) FlRel (fun Q E σ => mb (fun f σ' => mf (fun g σ'' => match g with | .next => Q f σ'' | g => Q g σ'') E σ')
      (fun x σ' => x.ctx = false ∧ mg (fun g σ'' => match g with | .next => E x σ'' | _ => False) E σ') σ) := fun c σ s W h Q E q => by
  have plain : ∀ (f : Flow) (lf : LF) (s₁ : Shared) (σ₁ : LS), FlRel s₁.heap lf f → Rel prog w c env σ₁ s₁ → Imm s.heap s₁.heap → mf (fun g σ'' => match g with | .next => Q lf σ'' | g => Q g σ'') E σ₁ →
      wpAny (model prog w) A (execs (f₀ :: fs) env) (fun g s' => match g with | .next => Post prog w c env FlRel s.heap Q f s' | g => Post prog w c env FlRel s.heap Q g s') (notedBy (model prog w) A env (cameBackBy (model prog w) A env (EPost prog w c env s.heap E))) s₁ := by
    intro f lf s₁ σ₁ rf h₁ i₁ q₁
    refine wpAny_mono ((h1 c σ₁ s₁ W h₁).go i₁ q₁ (P := fun g s' => match g with | .next => Post prog w c env FlRel s.heap Q f s' | g => Post prog w c env FlRel s.heap Q g s') fun g v σ₂ s₂ rg h₂ i₂ j₂ q₂ => ?_) (fun _ _ x => x) fun e s' p => passes (A := A) W hf e s' p
    cases rg with
    | next =>
      refine ⟨lf, σ₂, ?_, h₂, i₂, q₂⟩
      cases rf with
      | next => exact .next
      | brk => exact .brk
      | cont => exact .cont
      | ret r => exact .ret (r.imm j₂)
    | brk => exact ⟨_, σ₂, .brk, h₂, i₂, q₂⟩
    | cont => exact ⟨_, σ₂, .cont, h₂, i₂, q₂⟩
    | ret r => exact ⟨_, σ₂, .ret r, h₂, i₂, q₂⟩
  refine wpAny_Try_finally (wpAny_mono (hb c σ s W h _ _ q) (fun f s₁ p => ?_) fun e s₁ p => ?_)
  · obtain ⟨lf, σ₁, rf, h₁, i₁, q₁⟩ := p
    cases rf with
    | next => exact wpAny_execs_nil (plain _ _ s₁ σ₁ .next h₁ i₁ q₁)
    | brk => exact plain _ _ s₁ σ₁ .brk h₁ i₁ q₁
    | cont => exact plain _ _ s₁ σ₁ .cont h₁ i₁ q₁
    | ret r => exact plain _ _ s₁ σ₁ (.ret r) h₁ i₁ q₁
  · obtain ⟨x, σ₁, y, h₁, i₁, hx, q₁⟩ := p
    refine at_note W hf h₁ y fun h₂ r₂ y₂ i₂ => ⟨?_, at_note W hf r₂ y₂.at fun h₃ r₃ y₃ i₃ => at_flight (f := none) r₃ y₃ fun h₄ r₄ y₄ i₄ => ?_⟩
    · obtain ⟨ea, _, _, _, _, _, rfl, _⟩ := y₂; intro z; cases z
    · obtain ⟨ea, oe, vs, T, oT, ts, rfl, ob, e1, tb⟩ := id y₄
      obtain ⟨ne1, ne2⟩ := ob.off.ne r₄ ob.at_ ob.data
      obtain ⟨ne3, ne4⟩ := tb.off.ne r₄ tb.at_ tb.data
      have W₅ : WF TS n (c.more [(ea, oe), (T, oT)]) (A.mark (some (.ref ea))) env := by
        refine (W.more fun p hp => ?_).mark fun _ => ⟨oe, vs, .head _, ob.data, ob.ctx hx⟩
        rcases List.mem_cons.mp hp with rfl | hp
        · exact ⟨ne1, ne2⟩
        · rw [List.mem_singleton.mp hp]; exact ⟨ne3, ne4⟩
      have r₅ : Rel prog w (c.more [(ea, oe), (T, oT)]) env σ₁ { s₁ with heap := h₄ } := by
        have a := (r₄.addGuard tb.at_ tb.off.2.1)
        have b := a.addGuard (C := ea) (o := oe) ob.at_ ob.off.2.1
        exact b
      have i₄' := ((i₁.trans i₂).trans i₃).trans i₄
      refine wpAny_mono ((h2 ea _ σ₁ _ W₅ r₅).go i₄' q₁ (P := fun g s₂ => match g with | .next => wpAny (model prog w) A (PySem.passOn "try.finally" (.ref ea) env) (Post prog w c env FlRel s.heap Q) (EPost prog w c env s.heap E) s₂ | g => wpAny (model prog w) A (setFlight (.ref ea) none) (fun _ s₃ => Post prog w c env FlRel s.heap Q g s₃) (EPost prog w c env s.heap E) s₂) fun g v σ₆ s₆ rg h₆ i₆ j₆ q₆ => ?_) (fun _ _ x => x) fun e s' p => ?_
      · cases rg with
        | next =>
          have y₆ := ExcTb.again ob e1 tb h₆
          have r₆ := h₆.less
          obtain ⟨ea', oe', vs', T', oT', ts', ez, ob', e1', tb'⟩ := id y₆
          cases ez
          unfold PySem.passOn
          refine wpAny_bind (wpAny_field ob'.at_ ob'.data e1' ?_)
          rw [if_neg (show ¬ ((Value.ref T' == Value.none) = true) from by simp)]
          rw [hf]
          refine wpAny_bind (at_flight r₆ y₆ fun h₇ r₇ y₇ i₇ => wpAny_throw ⟨x, σ₆, ?_, r₇, i₆.trans i₇, q₆⟩)
          exact y₇.at
        | _ => exact q₆.elim
      · obtain ⟨x', σ₆, y₆, r₆, i₆, ex⟩ := p
        exact at_note W₅ hf r₆ y₆ fun h' r' y' im' => at_back hf r' y' fun h'' r'' y'' im'' => ⟨x', σ₆, y''.at.less, r''.less, (i₆.trans im').trans im'', ex⟩
end
end Mine
end
noncomputable section
open PySem PySem.W PyProof.Rows PySem.Calls PySem.SeqAt
set_option Elab.async false
set_option maxRecDepth 100000
set_option linter.unusedVariables false
set_option linter.unusedSimpArgs false
namespace Mine
theorem slot_li_ga : Slot "list_iterator" "__getattribute__" "object.__getattribute__" :=
  .of (owner := "object") (n := "__getattribute__") (by rw [typeLookup_type, builtinLookup_eq_fast]; kernel_rfl) (by decide +kernel) (by decide +kernel) (by decide +kernel)
    (by first | exact .inl (by decide +kernel) | exact .inr (by decide +kernel)) (by rw [isSubtype_type]; kernel_rfl)
theorem type_li_next : typeOf (.builtin "list_iterator.__next__") = pure (.type "wrapper_descriptor") := by kernel_rfl
theorem slot_wd_get : Slot "wrapper_descriptor" "__get__" "wrapper_descriptor.__get__" :=
  .of (owner := "wrapper_descriptor") (n := "__get__") (by rw [typeLookup_type, builtinLookup_eq_fast]; kernel_rfl) (by decide +kernel) (by decide +kernel) (by decide +kernel)
    (by first | exact .inl (by decide +kernel) | exact .inr (by decide +kernel)) (by rw [isSubtype_type]; kernel_rfl)
theorem wd_no_set : typeLookup (.type "wrapper_descriptor") "__set__" = pure none := by rw [typeLookup_type, builtinLookup_eq_fast]; kernel_rfl
theorem wd_no_delete : typeLookup (.type "wrapper_descriptor") "__delete__" = pure none := by rw [typeLookup_type, builtinLookup_eq_fast]; kernel_rfl
theorem entry_wd_get : entryFor table "wrapper_descriptor.__get__" = some Builtin.«wrapper_descriptor.__get__» := entryFor_of_fast (by kernel_rfl)
theorem args_wd_get (a b c : Value) : argsOk "wrapper_descriptor.__get__" ⟨[a, b, c], []⟩ := by unfold argsOk; kernel_rfl
section
variable {prog : Program} {w : World} {A : Around} {E : Value → Shared → Prop} {h : Heap} {g : Array GenState} {d : Drawn} {t : Nat} {os : OsState} {a : Addr} {o : Obj} {vs : Array Value}
theorem sub_li_owner : isSubtype (.type "list_iterator") (.type (".".intercalate ("list_iterator.__next__".cutAt '.').dropLast)) = pure true := by
  rw [show ".".intercalate ("list_iterator.__next__".cutAt '.').dropLast = "list_iterator" by decide +kernel, isSubtype_type]; kernel_rfl
theorem wd_get_run {tp : Value} {R : Result → Shared → Prop} (hx : h.get? a = some o) (hc : o.cls = .type "list_iterator") (htp : (tp == Value.none) = false)
    (hq : R (.ok (.ret (.ref h.objs.size))) ⟨h.push { cls := .type "method-wrapper", dict := none, data := .fields #[.builtin "list_iterator.__next__", .ref a] }, g, d, t, os⟩) :
    codeAny (model prog w) A (.call (.builtin "wrapper_descriptor.__get__") ⟨[.builtin "list_iterator.__next__", .ref a, tp], []⟩) R ⟨h, g, d, t, os⟩ := by
  have hT : (⟨h, g, d, t, os⟩ : Shared).TypeIs (.ref a) "list_iterator" := ⟨_, hx, hc⟩
  have hT5 : (⟨h, g, d, t, os⟩ : Shared).TypeIs (.builtin "list_iterator.__next__") "wrapper_descriptor" := type_li_next
  have f8 := sub_li_owner
  refine codeAny_call_builtin slot_wd_get.plain entry_wd_get (slot_wd_get.check _ _ _ _ _ _ _ _ hT5 (args_wd_get _ _ _) ?_)
  repeat (any_goals (first | assumption | wp_step))
theorem ga_entry {tk : Tok} {Q : Fin → Shared → Prop} (hx : h.get? a = some { cls := .type "list_iterator", data := .fields vs })
    (hq : Q (.done (.ret (.ref h.objs.size))) ⟨h.push { cls := .type "method-wrapper", dict := none, data := .fields #[.builtin "list_iterator.__next__", .ref a] }, g, d, t, os⟩) :
    wpAny (model prog w) A (Builtin.«object.__getattribute__» ⟨[.ref a, .str "__next__" tk], []⟩) Q E ⟨h, g, d, t, os⟩ := by
  have hT : (⟨h, g, d, t, os⟩ : Shared).TypeIs (.ref a) "list_iterator" := ⟨_, hx, rfl⟩
  have hT5 : (⟨h, g, d, t, os⟩ : Shared).TypeIs (.builtin "list_iterator.__next__") "wrapper_descriptor" := type_li_next
  have f4 := slot_listiter_next.lookup
  have f5 := type_li_next
  have f6 := slot_wd_get.lookup
  have f7 := wd_no_set
  have f8 := wd_no_delete
  repeat (any_goals (first | assumption | wp_step))
  refine wd_get_run hx rfl rfl ?_
  repeat (any_goals (first | assumption | wp_step))
theorem ga_call {tk : Tok} {R : Result → Shared → Prop} (hx : h.get? a = some { cls := .type "list_iterator", data := .fields vs })
    (hq : R (.ok (.ret (.ref h.objs.size))) ⟨h.push { cls := .type "method-wrapper", dict := none, data := .fields #[.builtin "list_iterator.__next__", .ref a] }, g, d, t, os⟩) :
    codeAny (model prog w) A (.call (.builtin "object.__getattribute__") ⟨[.ref a, .str "__next__" tk], []⟩) R ⟨h, g, d, t, os⟩ :=
  codeAny_call_builtin slot_li_ga.plain F.entry_object_getattribute (slot_li_ga.check _ _ _ _ _ _ _ _ (show (⟨h, g, d, t, os⟩ : Shared).TypeIs (.ref a) "list_iterator" from ⟨_, hx, rfl⟩) (F.args_object_getattribute_2 _ _) (ga_entry hx hq))
theorem getAttr_next {Q : Value → Shared → Prop} (hx : h.get? a = some { cls := .type "list_iterator", data := .fields vs })
    (hq : Q (.ref h.objs.size) ⟨h.push { cls := .type "method-wrapper", dict := none, data := .fields #[.builtin "list_iterator.__next__", .ref a] }, g, d, t + 1, os⟩) :
    wpAny (model prog w) A (getAttr (.ref a) "__next__" true) Q E ⟨h, g, d, t, os⟩ := by
  have hT : ∀ tk', (⟨h, g, d, tk', os⟩ : Shared).TypeIs (.ref a) "list_iterator" := fun _ => ⟨_, hx, rfl⟩
  have f2 := slot_li_ga.lookup
  have f3 := slot_li_ga.bind (.ref a)
  unfold getAttr getAttrBy
  repeat (any_goals (first | assumption | exact hT _ | wp_step))
  refine ga_call hx ?_
  repeat (any_goals (first | assumption | wp_step))
end

def LS.del (σ : LS) (a : Nat) : LS := { σ with heap := fun b => if b = a then none else σ.heap b }
def pnextc : LV → PTx LV
  | .nxt it => fun Q E σ => ∃ l i xs, σ.heap it = some (.iter l i) ∧ σ.heap l = some (.list xs) ∧ (match xs[i]? with | some v => Q v (σ.put it (.iter l (i + 1))) | none => E ⟨"StopIteration", false⟩ (σ.del it))
  | _ => pfail
def pnextof : LV → PTx LV
  | .ref it => fun Q _ σ => ∃ l i, σ.heap it = some (.iter l i) ∧ Q (.nxt it) σ
  | _ => pfail
section
variable {prog : Program} {w : World} {TS : TopS} {c : Cx} {A : Around} {env : Env} {σ : LS} {s : Shared} {n : Nat}
theorem Rel.del (h : Rel prog w c env σ s) (a : Nat) : Rel prog w c env (σ.del a) s :=
  ⟨h.keep, h.guard, h.ns, h.cell, h.cin, fun b o e => h.obj b o (by simp only [LS.del] at e; split at e; cases e; exact e), fun b o e => h.dom b o (by simp only [LS.del] at e; split at e; cases e; exact e), h.gens, h.os, h.drawn⟩
theorem sim_nextof : Sim1 prog w TS n A env (fun v => getAttr v (Str.ofString "__next__") true) VRel pnextof := fun c σ s a x W h ra Q E q => by
  cases a with
  | ref a =>
    obtain ⟨l, i, e, q⟩ := q
    cases ra.ref_inv
    have ho : s.heap.get? a = some { cls := .type "list_iterator", data := .fields #[.ref l, .int i 0] } := h.obj a _ e
    obtain ⟨hp, g, d, tk, os⟩ := s
    refine getAttr_next ho ?_
    have k : ∀ b o, hp.get? b = some o → (hp.push { cls := .type "method-wrapper", dict := none, data := .fields #[.builtin "list_iterator.__next__", .ref a] }).get? b = some o := fun b o e => Heap.get?_push_of_some _ e
    exact ⟨.nxt a, σ, .nxt (Heap.get?_push_size _ rfl), h.keeps (tk := tk + 1) k, Imm.of_keeps k, q⟩
  | _ => exact q.elim
theorem check_next (a : Addr) : checkBoundCall "list_iterator.__next__" ⟨[.ref a], []⟩ = pure () := by first | kernel_rfl | rfl
theorem quiet_next (a : Addr) : (Code.builtin "list_iterator.__next__" ⟨[.ref a], []⟩).quiet = true := plainId_quiet slot_listiter_next.plain _
theorem nxt_inv {h : Heap} {it : Nat} {v : Value} (r : VRel h (.nxt it) v) : ∃ q, v = .ref q ∧ h.get? q = some (mwObj it) := by cases r with | nxt e => exact ⟨_, rfl, e⟩
theorem callWith_mw {M : Model} {pos : Pos} {u it : Addr} {Q : Value → Shared → Prop} {E : Value → Shared → Prop} (ho : s.heap.get? u = some (mwObj it)) (h : wpAny M A (call (.ref u) []) Q E s) : wpAny M A (callWith pos (.ref u) [] (argT pos [] env) []) Q E s := by
  unfold callWith
  refine wpAny_bind (wpAny_holding (evalArgs_go rfl (spliced_nil (wpAny_bind (wpAny_standAt ?_)))))
  rw [show argT pos ([] : List Expr) env = [] from rfl]
  simp only [List.any_nil, Bool.or_false]
  refine wpAny_bind (m := keeperOf (.ref u)) ?_
  unfold keeperOf
  refine wpAny_bind (wpAny_load ho ?_)
  simp only [mwObj, show (Value.type "method-wrapper" != Value.type "method") = true by decide, show (Value.type "method-wrapper" == Value.type "builtin_function_or_method" || Value.type "method-wrapper" == Value.type "method-wrapper") = true by decide, if_true]
  refine wpAny_pure ?_
  exact wpAny_bind (wpAny_mono h (fun r s₂ hr => wpAny_bind (wpAny_holding (wpAny_point (wpAny_pure hr)))) fun _ _ x => x)
theorem sim_nextc (hh : A.handled = none) : Sim1 prog w TS n A env (fun v => call v []) VRel pnextc := fun c σ s a x W h ra Q E q => by
  cases a with
  | nxt it =>
    obtain ⟨l, i, xs, e1, e2, q⟩ := q
    obtain ⟨u, rfl, hu⟩ := nxt_inv ra
    have ho : s.heap.get? it = some { cls := .type "list_iterator", data := .fields #[.ref l, .int i 0] } := h.obj it _ e1
    obtain ⟨hz, items, n1, l1, r1⟩ := h.list_at e2
    refine wpAny_call (codeAny_of_tree ?_)
    show wpAny _ A.in1 (callAny (.ref u) ⟨[], []⟩) _ _ s
    simp only [callAny]
    refine wpAny_bind (wpAny_load hu ?_)
    simp only [mwObj, show (Value.type "method-wrapper" == Value.type "method" || Value.type "method-wrapper" == Value.type "builtin_function_or_method" || Value.type "method-wrapper" == Value.type "method-wrapper") = true by decide, if_true]
    show wpAny _ A.in1 (if (Value.type "method-wrapper" != Value.type "method") = true then _ else _) _ _ s
    rw [if_pos (by decide)]
    refine wpAny_bind (wpAny_of_eq (check_next it) (wpAny_pure ⟨quiet_next it, codeAny_builtin entry_listiter_next ?_⟩))
    rw [Around.under_plainId slot_listiter_next.plain _]
    show wpAny _ _ (field (.ref it) 0 >>= _) _ _ s
    refine wpAny_bind (wpAny_field ho rfl (x := .ref l) rfl ?_)
    show wpAny _ _ (if (Value.ref l == Value.none) = true then _ else _) _ _ s
    rw [if_neg (show ¬ ((Value.ref l == Value.none) = true) from Bool.false_ne_true)]
    show wpAny _ _ (field (.ref it) 1 >>= _) _ _ s
    refine wpAny_bind (wpAny_field ho rfl (x := .int i 0) rfl ?_)
    show wpAny _ _ (seqItems? (.ref l) >>= _) _ _ s
    refine wpAny_bind (wpAny_seqItems l1 rfl ?_)
    simp only [Int.toNat_natCast]
    split at q
    · rename_i v hx
      obtain ⟨x, h1, h2⟩ := r1.getA hx
      rw [h1]
      refine wpAny_bind (wpAny_setField ho rfl (by simp) (wpAny_pure ?_))
      have ke := (Heap.SameBut.update s.heap it (Obj.mapFields (·.setIfInBounds 1 (rawInt ((i : Int) + 1))))).extBut
      have im := h.update_imm e1 ke
      refine ⟨v, _, h2.imm im, h.update (tk := s.toks) (o' := .iter l (i + 1)) e1 ke ?_, im, q⟩
      have := Heap.get?_update_self (Obj.mapFields (·.setIfInBounds 1 (rawInt ((i : Int) + 1)))) ho rfl
      exact this
    · rename_i hx
      have hge := List.getElem?_eq_none_iff.mp hx
      have h1 : items[i]? = none := Array.getElem?_eq_none (by rw [r1.sizeA]; exact hge)
      rw [h1]
      refine wpAny_bind (wpAny_rule (wpAny_bind (wpAny_setField ho rfl (by simp) ?_)))
      have ke := (Heap.SameBut.update s.heap it (Obj.mapFields (·.setIfInBounds 0 Value.none))).extBut
      have im := h.update_imm e1 ke
      obtain ⟨d1, d2, d3, d4⟩ := h.dom it _ e1
      have ni : ∀ o, s.heap.get? it = some o → immObj o = false := fun o e => by rw [ho] at e; cases e; rfl
      have h₂ := (h.del it).extBut (tk := s.toks) ke ni d1 d2 d3 d4 (by simp [LS.del])
      show wpAny _ _ (newExc (.type "StopIteration") [] >>= _) _ _ _
      refine wpAny_bind ?_
      simp only [newExc, newTuple]
      refine wpAny_bind (wpAny_newObj_type ?_ (by size_fits))
      refine wpAny_bind (m := firstArgMember _ _) (wpAny_of_eq (a := Value.none) (by first | rfl | (simp only [firstArgMember]; rfl)) ?_)
      refine wpAny_newObj_type ?_ (by size_fits)
      simp only [raiseNew]
      refine wpAny_bind (wpAny_handled ?_)
      rw [show A.in1.handled = none from hh]
      refine wpAny_bind (wpAny_pure (wpAny_throw ?_))
      have N : Heap.NewExc (s.heap.update it (Obj.mapFields (·.setIfInBounds 0 Value.none))) (((s.heap.update it (Obj.mapFields (·.setIfInBounds 0 Value.none))).push { cls := .type "tuple", dict := none, data := .seq ([] : List Value).toArray }).push { cls := .type "StopIteration", dict := none, data := .fields (#[.ref (s.heap.update it (Obj.mapFields (·.setIfInBounds 0 Value.none))).objs.size, .none, .none, .none, .bool false, .none] ++ ownMembersOf (.type "StopIteration") []) })
          ((s.heap.update it (Obj.mapFields (·.setIfInBounds 0 Value.none))).push { cls := .type "tuple", dict := none, data := .seq ([] : List Value).toArray }).objs.size "StopIteration" :=
        ⟨fun b o hb => Heap.get?_push_of_some _ (Heap.get?_push_of_some _ hb), Heap.get?_none_of_le (by simp), _, .ref (s.heap.update it (Obj.mapFields (·.setIfInBounds 0 Value.none))).objs.size, Heap.get?_push_size _ rfl, rfl, by simp [ownMembersOf]⟩
      obtain ⟨z1, z2, z3⟩ := newExc_at (tk := s.toks) h₂ N (.inr rfl)
      exact ⟨_, _, z1, z2, im.trans z3, q⟩
  | _ => exact q.elim

theorem sim_CallV {e : Expr} {pos : Pos} {m : PTx LV} (hh : A.handled = none) (h1 : Sim prog w TS n A env (eval e env) VRel m)
    (he : eval (.Call e [] [] pos) env = (do callWith pos (← eval e env) [] (backTo pos (starEach [] env)) (backToKw pos (keywordEach [] env)))) :
    Sim prog w TS n A env (eval (.Call e [] [] pos) env) VRel (pbind m pnextc) := fun c σ s W h Q E q => by
  rw [he]
  refine wpAny_bind ((h1 c σ s W h).go (Imm.refl _) q fun a x σ₁ s₁ ra h₁ i₁ j₁ q₁ => ?_)
  cases a with
  | nxt it =>
    obtain ⟨u, rfl, hu⟩ := nxt_inv ra
    exact callWith_mw hu ((sim_nextc hh c σ₁ s₁ (.nxt it) (.ref u) W h₁ ra).fin i₁ q₁)
  | _ => exact q₁.elim
end
end Mine
end
noncomputable section
open PySem PySem.W PyProof.Rows PySem.Calls PySem.SeqAt
set_option Elab.async false
set_option linter.unusedVariables false
namespace Mine
def fnAt (p : Program) (i : Nat) : Stmt := p.main.body.getD i (.Pass ⟨0, 0, 0, 0⟩)
def inAt : Stmt → Nat → Stmt
  | .ClassDef _ _ _ body _ _ _ _ _ _ _, j => body.getD j (.Pass ⟨0, 0, 0, 0⟩)
  | s, _ => s
def fnBody : Stmt → List Stmt
  | .FunctionDef _ _ body _ _ _ _ _ _ _ => body
  | _ => []
def fnScope : Stmt → Scope
  | .FunctionDef _ _ _ _ _ _ scope _ _ _ => scope
  | _ => { kind := .function, names := [], isGenerator := false, isCoroutine := false }
def fnParams : Stmt → Arguments
  | .FunctionDef _ args _ _ _ _ _ _ _ _ => args
  | _ => { posonlyargs := [], args := [], vararg := none, kwonlyargs := [], kw_defaults := [], kwarg := none, defaults := [] }

set_option genInjectivity false in
set_option genSizeOf false in
structure Ad where
  (heappush heappop heapify siftdown siftup sld CT CN initT initN get add prep ready active done cyc dNode dNp dSucc joined read following switched lparents marked listed reached due : Addr)
  (tOut tDone : Tok)

/-- a slot of the node class -/
structure SlotF (K : Frag) (C p i : Nat) (x : String) : Prop where
  f : findIn K (.ref C) (Str.ofString x) = some (some (.ref p))
  g : specialIn K (.ref p) "__get__" = some (some (.builtin "member_descriptor.__get__"))
  t : takesIn K (.ref p) = some true
  s : slotIn K p C = some i
  k : takerIn K C (Str.ofString x) = some (some (.ref p))
  y : typeIn K (.ref p) = some (.type "member_descriptor")
structure MethF (K : Frag) (C fn : Nat) (x : String) : Prop where
  f : findIn K (.ref C) (Str.ofString x) = some (some (.ref fn))
  n : isFn K (.ref fn) = true
  k : keepIn K (.ref fn) = true
  g : specialIn K (.ref fn) "__get__" = some (some (.builtin "function.__get__"))
  t : takesIn K (.ref fn) = some false
  y : typeIn K (.ref fn) = some (.type "function")
  i : fnIn K fn = true
/-- a def that stands written out as its text says -/
def FnF (TS : TopS) (f : Addr) (st : Stmt) : Prop := ∃ o fd, FnIs TS f o fd (fnScope st) (fnBody st) ∧ fd.params = fnParams st ∧ fd.defaults = .none

/-- the same, with what its arguments are bound to -/
def FnB (TS : TopS) (f : Addr) (st : Stmt) (ns : List String) : Prop := ∃ o fd, FnIs TS f o fd (fnScope st) (fnBody st) ∧ ∀ (s : Shared) (xs : List Value), TS.K.In s.heap → xs.length = ns.length → BindsTo s fd ⟨xs, []⟩ ((ns.map Str.ofString).zip xs)
structure Facts (TS : TopS) (ad : Ad) : Prop where
  gl_len : TS.gl "len" = some (.builtin "len")
  gl_sorted : TS.gl "sorted" = some (.builtin "sorted")
  gl_sum : TS.gl "sum" = some (.builtin "sum")
  gl_list : TS.gl "list" = some (.type "list")
  gl_tuple : TS.gl "tuple" = some (.type "tuple")
  gl_set : TS.gl "set" = some (.type "set")
  gl_int : TS.gl "int" = some (.type "int")
  gl_range : TS.gl "range" = some (.type "range")
  gl_iter : TS.gl "iter" = some (.builtin "iter")
  gl_bool : TS.gl "bool" = some (.type "bool")
  gl_enumerate : TS.gl "enumerate" = some (.type "enumerate")
  gl_reversed : TS.gl "reversed" = some (.type "reversed")
  gl_IndexError : TS.gl "IndexError" = some (.type "IndexError")
  gl_StopIteration : TS.gl "StopIteration" = some (.type "StopIteration")
  gl_NODE_OUT : TS.gl "_NODE_OUT" = some (.int (-1) ad.tOut)
  gl_NODE_DONE : TS.gl "_NODE_DONE" = some (.int (-2) ad.tDone)
  hon : TS.hnd = true
  gl_heappush : TS.gl "heappush" = some (.ref ad.heappush)
  gl_heappop : TS.gl "heappop" = some (.ref ad.heappop)
  gl_heapify : TS.gl "heapify" = some (.ref ad.heapify)
  gl_siftdown : TS.gl "_siftdown" = some (.ref ad.siftdown)
  gl_siftup : TS.gl "_siftup" = some (.ref ad.siftup)
  gl_sorted_list_difference : TS.gl "sorted_list_difference" = some (.ref ad.sld)
  gl_law_joined : TS.gl "_law_joined" = some (.ref ad.joined)
  gl_CT : TS.gl "TopologicalSorter" = some (.ref ad.CT)
  gl_CN : TS.gl "_NodeInfo" = some (.ref ad.CN)
  kp_heappush : keepIn TS.K (.ref ad.heappush) = true
  kp_heappop : keepIn TS.K (.ref ad.heappop) = true
  kp_heapify : keepIn TS.K (.ref ad.heapify) = true
  kp_siftdown : keepIn TS.K (.ref ad.siftdown) = true
  kp_siftup : keepIn TS.K (.ref ad.siftup) = true
  kp_sorted_list_difference : keepIn TS.K (.ref ad.sld) = true
  kp_law_joined : keepIn TS.K (.ref ad.joined) = true
  kp_CT : keepIn TS.K (.ref ad.CT) = true
  kp_CN : keepIn TS.K (.ref ad.CN) = true
  pgT : ∀ x, plainGet TS.K ad.CT x = true
  pgN : ∀ x, plainGet TS.K ad.CN x = true
  hdT : hasDictIn TS.K ad.CT = true
  clN : isClsIn TS.K ad.CN = true
  at_node2info : findIn TS.K (.ref ad.CT) (Str.ofString "_node2info") = some none
  at_ready_nodes : findIn TS.K (.ref ad.CT) (Str.ofString "_ready_nodes") = some none
  at_npassedout : findIn TS.K (.ref ad.CT) (Str.ofString "_npassedout") = some none
  at_nfinished : findIn TS.K (.ref ad.CT) (Str.ofString "_nfinished") = some none
  stT : findIn TS.K (.ref ad.CT) "__setattr__" = some (some (.builtin "object.__setattr__"))
  stN : findIn TS.K (.ref ad.CN) "__setattr__" = some (some (.builtin "object.__setattr__"))
  poT : plainOver TS.K ad.CT = true
  poN : plainOver TS.K ad.CN = true
  snode : SlotF TS.K ad.CN ad.dNode 0 "node"
  snpredecessors : SlotF TS.K ad.CN ad.dNp 1 "npredecessors"
  ssuccessors : SlotF TS.K ad.CN ad.dSucc 2 "successors"
  m_get_nodeinfo : MethF TS.K ad.CT ad.get "_get_nodeinfo"
  m_add : MethF TS.K ad.CT ad.add "add"
  m_prepare : MethF TS.K ad.CT ad.prep "prepare"
  m_get_ready : MethF TS.K ad.CT ad.ready "get_ready"
  m_is_active : MethF TS.K ad.CT ad.active "is_active"
  m_done : MethF TS.K ad.CT ad.done "done"
  m_find_cycle : MethF TS.K ad.CT ad.cyc "_find_cycle"
  mkT : makesIn TS.K ad.CT = true
  mkN : makesIn TS.K ad.CN = true
  inT : findIn TS.K (.ref ad.CT) "__init__" = some (some (.ref ad.initT))
  inN : findIn TS.K (.ref ad.CN) "__init__" = some (some (.ref ad.initN))
  tiT : typeIn TS.K (.ref ad.initT) = some (.type "function")
  tiN : typeIn TS.K (.ref ad.initN) = some (.type "function")

abbrev ptupT (ms : List (LV → PTx Unit)) : LV → PTx Unit := fun v => fun Q E σ => (∃ vs, v = .tup vs ∧ vs.length = ms.length) ∧ punpack ms v Q E σ
theorem taker_none {K : Frag} {C : Nat} {x : Str} (h : findIn K (.ref C) x = some none) : takerIn K C x = some none := by unfold takerIn; rw [h]; rfl
theorem ex_IndexError : isSubtype (.type "IndexError") (.type "BaseException") = pure true ∧ isSubtype (.type ((Manifest.find? "IndexError").elim "type" fun x => x.metatype)) (.type "tuple") = pure false ∧ isSubtype (.type "IndexError") (.type "IndexError") = pure true :=
  ⟨by rw [isSubtype_type]; kernel_rfl, by rw [isSubtype_type]; kernel_rfl, by rw [isSubtype_type]; kernel_rfl⟩
theorem ex_StopIteration : isSubtype (.type "StopIteration") (.type "BaseException") = pure true ∧ isSubtype (.type ((Manifest.find? "StopIteration").elim "type" fun x => x.metatype)) (.type "tuple") = pure false ∧ isSubtype (.type "StopIteration") (.type "StopIteration") = pure true :=
  ⟨by rw [isSubtype_type]; kernel_rfl, by rw [isSubtype_type]; kernel_rfl, by rw [isSubtype_type]; kernel_rfl⟩
section
variable {prog : Program} {w : World} {TS : TopS} {c : Cx} {A : Around} {env : Env} {σ : LS} {s : Shared} {n : Nat}
theorem names_okP {scope : Scope} {names : List String} (hk : (names.all fun x => scope.names.lookup (Str.ofString x) == some .local || scope.names.lookup (Str.ofString x) == some .cell) = true) :
    ∀ as bs, bndP names as = some bs → ∀ b ∈ bs, scope.names.lookup (Str.ofString b.1) = some .local ∨ scope.names.lookup (Str.ofString b.1) = some .cell := fun as bs hb b hbm => by
  unfold bndP at hb
  split at hb
  · cases hb
    have := List.all_eq_true.mp hk b.1 (List.of_mem_zip (a := b.1) (b := b.2) hbm).1
    simpa using this
  · cases hb
theorem names_okV {scope : Scope} {names : List String} {va : String} (hk : ((va :: names).all fun x => scope.names.lookup (Str.ofString x) == some .local || scope.names.lookup (Str.ofString x) == some .cell) = true) :
    ∀ as bs, bndV names va as = some bs → ∀ b ∈ bs, scope.names.lookup (Str.ofString b.1) = some .local ∨ scope.names.lookup (Str.ofString b.1) = some .cell := fun as bs hb b hbm => by
  unfold bndV at hb
  split at hb
  · cases hb
    have hm : b.1 ∈ va :: names := by
      rcases List.mem_append.mp hbm with q | q
      · exact .tail _ (List.of_mem_zip (a := b.1) (b := b.2) q).1
      · rw [List.mem_singleton.mp q]; exact .head _
    have := List.all_eq_true.mp hk b.1 hm
    simpa using this
  · cases hb
theorem sim_fail {t : Sem Flow} : Sim prog w TS n A env t FlRel pfail := fun _ _ _ _ _ _ _ q => q.elim
theorem storeC {x : String} (h : env.kindOf (Str.ofString x) = some .cell) (h2 : ∃ a, env.cells.lookup (Str.ofString x) = some a ∧ env.locals < a) : StoreOk env x := .inr ⟨h, h2⟩

def pscript (a : Addr) (is : List Int) : PTx LV := fun Q _ σ => σ.loc "script" = some (.raw (.ref a)) ∧ ∀ d, σ.heap d = none → Q (.ref d) (σ.put d (.list ((is.take 12).map .int)))
theorem sim_script {a : Addr} {is : List Int} {np p ip pos : Pos} {k : Nat} (hs : TS.scr = some (a, is)) (hk : nameOk env "script" = true) :
    Sim prog w TS n A env (eval (.Subscript (.Name (Str.ofString "script") np) (.Slice none (some (.Constant (.int 12) k ip)) none p) pos) env) VRel (pscript a is) := fun c σ s W h Q E q => by
  obtain ⟨q0, q⟩ := q
  refine wpAny_Subscript_Slice slot_list_getitem.lookup ((sim_Name hk c σ s W h).go (Imm.refl _) (E := E) (K := fun v σ' => σ' = σ ∧ v = .raw (.ref a)) ⟨_, q0, rfl, rfl⟩ fun b x σ₁ s₁ rb h₁ i₁ j₁ q₁ => ?_) (fun _ _ => rfl)
  obtain ⟨rfl, rfl⟩ := q₁
  cases rb
  obtain ⟨items, l0, hi, hz⟩ := W.top.scr a is hs
  refine wpAny_Slice (wpAny_pure ((sim_int (i := 12) (k := k) (pos := ip) c σ₁ s₁ W h₁).go i₁ (E := E) (K := fun v σ' => σ' = σ₁ ∧ v = .int 12) ⟨rfl, rfl⟩ fun b y σ₂ s₂ rb h₂ i₂ j₂ q₂ => wpAny_pure ?_))
  obtain ⟨rfl, rfl⟩ := q₂
  obtain ⟨t, rfl⟩ := rb.int_inv
  obtain ⟨h₃, i₃⟩ := slice_push h₂ .none (.int 12 t) .none
  have l1 : Heap.IsList _ a items := let ⟨o, a1, a2⟩ := l0; ⟨o, h₃.keep _ _ a1, a2⟩
  refine ⟨l1.typeIs, wpAny_getItem_list_slice l1 (Heap.IsSliceOf.new ..) .none (.int _ _) .none (by simp) ?_ hz⟩
  have e9 : slicePick items none (some 12) none = (items.toList.take 12).toArray := slicePick_upto' items 12
  rw [e9]
  have k : ∀ b o, (s₂.heap.push { cls := .type "slice", data := .fields #[.none, .int 12 t, .none] }).get? b = some o → ((s₂.heap.push { cls := .type "slice", data := .fields #[.none, .int 12 t, .none] }).push { cls := .type "list", data := .seq (items.toList.take 12).toArray }).get? b = some o := fun b o e => Heap.get?_push_of_some _ e
  have hv : VRels (s₂.heap.push { cls := .type "slice", data := .fields #[.none, .int 12 t, .none] }) ((is.take 12).map .int) (items.toList.take 12) := by
    have := (vrels_ints (h := s₂.heap.push { cls := .type "slice", data := .fields #[.none, .int 12 t, .none] }) hi).take 12
    rwa [List.map_take] 
  have hc : ((is.take 12).map LV.int).length ≤ cap := by
    rw [List.length_map, List.length_take]
    have : 12 ≤ cap := by decide
    omega
  have h₄ := h₃.alloc (tk := s₂.toks) (o := .list ((is.take 12).map .int)) k ⟨hc, _, 0, Heap.get?_push_size _ rfl, by simpa using hv.imm (Imm.of_keeps k)⟩
  exact ⟨_, _, .ref _, h₄, (i₂.trans i₃).trans (Imm.of_keeps k), q _ h₃.fresh_obj⟩
end
end Mine
end
noncomputable section
open PySem PySem.W PyProof.Rows PySem.Calls PySem.SeqAt
set_option Elab.async false
set_option linter.unusedVariables false
set_option maxRecDepth 100000
set_option maxHeartbeats 4000000
namespace Mine
structure FactsL (TS : TopS) (ad : Ad) : Prop extends Facts TS ad where
  fn_siftdown : FnB TS ad.siftdown (fnAt PySem.Challenge.pw_nq0219_01 11) ["heap", "startpos", "pos"]
  fn_siftup : FnB TS ad.siftup (fnAt PySem.Challenge.pw_nq0219_01 12) ["heap", "pos"]
  fn_heappush : FnB TS ad.heappush (fnAt PySem.Challenge.pw_nq0219_01 8) ["heap", "item"]
  fn_heappop : FnB TS ad.heappop (fnAt PySem.Challenge.pw_nq0219_01 9) ["heap"]
  fn_heapify : FnB TS ad.heapify (fnAt PySem.Challenge.pw_nq0219_01 10) ["x"]
  fn_sorted_list_difference : FnB TS ad.sld (fnAt PySem.Challenge.pw_nq0219_01 14) ["expected", "actual"]
  fn_initN : FnB TS ad.initN (inAt (fnAt PySem.Challenge.pw_nq0219_01 4) 1) ["self", "node"]
  fn_get_nodeinfo : FnB TS ad.get (inAt (fnAt PySem.Challenge.pw_nq0219_01 6) 1) ["self", "node"]
  fn_add : FnF TS ad.add (inAt (fnAt PySem.Challenge.pw_nq0219_01 6) 2)
  fn_initT : ∃ o fd, FnIs TS ad.initT o fd (fnScope (inAt (fnAt PySem.Challenge.pw_nq0219_01 6) 0)) (fnBody (inAt (fnAt PySem.Challenge.pw_nq0219_01 6) 0)) ∧ ∀ (s : Shared) (xs : List Value), TS.K.In s.heap → xs.length = 2 → BindsTo s fd ⟨xs, []⟩ ((["self", "graph"].map Str.ofString).zip xs)
  fn_get_ready : FnB TS ad.ready (inAt (fnAt PySem.Challenge.pw_nq0219_01 6) 4) ["self"]
  fn_is_active : FnB TS ad.active (inAt (fnAt PySem.Challenge.pw_nq0219_01 6) 5) ["self"]
  fn_done : FnF TS ad.done (inAt (fnAt PySem.Challenge.pw_nq0219_01 6) 7)
  fn_find_cycle : FnB TS ad.cyc (inAt (fnAt PySem.Challenge.pw_nq0219_01 6) 8) ["self"]
  fn_prepare : FnB TS ad.prep (inAt (fnAt PySem.Challenge.pw_nq0219_01 6) 3) ["self"]
  fn_law_joined : FnB TS ad.joined (fnAt PySem.Challenge.pw_nq0219_01 16) ["rows"]
  fn_law_read : FnB TS ad.read (fnAt PySem.Challenge.pw_nq0219_01 17) ["ahead"]
  fn_law_following : FnB TS ad.following (fnAt PySem.Challenge.pw_nq0219_01 18) ["ahead", "ranks", "under", "chosen"]
  fn_law_switched : FnB TS ad.switched (fnAt PySem.Challenge.pw_nq0219_01 19) ["ahead", "ranks", "chosen"]
  gl_law_read : TS.gl "_law_read" = some (.ref ad.read)
  kp_law_read : keepIn TS.K (.ref ad.read) = true
  gl_law_following : TS.gl "_law_following" = some (.ref ad.following)
  kp_law_following : keepIn TS.K (.ref ad.following) = true
  gl_law_switched : TS.gl "_law_switched" = some (.ref ad.switched)
  kp_law_switched : keepIn TS.K (.ref ad.switched) = true
section
variable {prog : Program} {w : World} {TS : TopS} {A : Around} {n : Nat}
def B_siftdown (ad : Ad) : PTx LF :=
  (pseq
  (pbind (pbind (pget "heap") fun a => pbind (pget "pos") fun b => plget a b) fun v => pbind (pset "newitem" v) fun _ => pret .next)
  (pseq
  (pwhile (pbind (pget "pos") fun a => pbind (pget "startpos") fun b => pgt a b) (pseq
  (pbind (pbind (pbind (pget "pos") fun a => pbind (pret (.int 1)) fun b => psub a b) fun a => pbind (pret (.int 1)) fun b => pshr a b) fun v => pbind (pset "parentpos" v) fun _ => pret .next)
  (pseq
  (pbind (pbind (pget "heap") fun a => pbind (pget "parentpos") fun b => plget a b) fun v => pbind (pset "parent" v) fun _ => pret .next)
  (pseq
  (pif (pbind (pget "newitem") fun a => pbind (pget "parent") fun b => plt a b) (pseq
  (pbind (pget "parent") fun v => pbind ((fun v => pbind (pget "heap") fun a => pbind (pget "pos") fun b => plset a b v) v) fun _ => pret .next)
  (pseq
  (pbind (pget "parentpos") fun v => pbind (pset "pos" v) fun _ => pret .next)
  (pret .cont))) (pret .next))
  (pret .brk)))) (pret .next))
  (pbind (pget "newitem") fun v => pbind ((fun v => pbind (pget "heap") fun a => pbind (pget "pos") fun b => plset a b v) v) fun _ => pret .next)))
abbrev P_siftdown (ad : Ad) : List LV → PTx LV := pdef (bndP ["heap", "startpos", "pos"]) (B_siftdown ad)
theorem Q_siftdown {ad : Ad} (F : FactsL TS ad) (hh : A.handled = none) {L f : Addr} {q : Str} {cd : Value} : Sim prog w TS (n + 0) A (fenv (fnScope (fnAt PySem.Challenge.pw_nq0219_01 11)) L q f cd) (execs (fnBody (fnAt PySem.Challenge.pw_nq0219_01 11)) (fenv (fnScope (fnAt PySem.Challenge.pw_nq0219_01 11)) L q f cd)) FlRel (B_siftdown ad) :=
  (sim_cons
  (sim_Assign_Name (x := "newitem") (.inl (by kernel_rfl)) (sim_Subscript (sim_Name (x := "heap") (by kernel_rfl)) (sim_Name (x := "pos") (by kernel_rfl)) (tail_plget (fun _ _ => rfl))) (by kernel_rfl))
  (sim_cons
  (sim_While rfl (sim_test_Compare (sim_Name (x := "pos") (by kernel_rfl)) (sim_Name (x := "startpos") (by kernel_rfl)) sim_gt rfl) (sim_cons
  (sim_Assign_Name (x := "parentpos") (.inl (by kernel_rfl)) (sim_BinOp (sim_BinOp (sim_Name (x := "pos") (by kernel_rfl)) sim_int sim_sub) sim_int sim_shr) (by kernel_rfl))
  (sim_cons
  (sim_Assign_Name (x := "parent") (.inl (by kernel_rfl)) (sim_Subscript (sim_Name (x := "heap") (by kernel_rfl)) (sim_Name (x := "parentpos") (by kernel_rfl)) (tail_plget (fun _ _ => rfl))) (by kernel_rfl))
  (sim_cons
  (sim_If (sim_test_Compare (sim_Name (x := "newitem") (by kernel_rfl)) (sim_Name (x := "parent") (by kernel_rfl)) sim_lt rfl) (sim_cons
  (sim_Assign (sim_Name (x := "parent") (by kernel_rfl)) (sim_tSub (sim_Name (x := "heap") (by kernel_rfl)) (sim_Name (x := "pos") (by kernel_rfl)) sim_plset) rfl rfl rfl)
  (sim_cons
  (sim_Assign_Name (x := "pos") (.inl (by kernel_rfl)) (sim_Name (x := "parentpos") (by kernel_rfl)) (by kernel_rfl))
  (sim_one sim_Continue))) sim_nil)
  (sim_one sim_Break)))) sim_nil)
  (sim_one (sim_Assign (sim_Name (x := "newitem") (by kernel_rfl)) (sim_tSub (sim_Name (x := "heap") (by kernel_rfl)) (sim_Name (x := "pos") (by kernel_rfl)) sim_plset) rfl rfl rfl))))
theorem S_siftdown {ad : Ad} (F : FactsL TS ad) (hh : A.handled = none) : SimF prog w TS (n + 1) A (.ref ad.siftdown) (P_siftdown ad) := by
  obtain ⟨o, fd, H, hb⟩ := F.fn_siftdown
  exact sim_def H hh (bind_plain hb) (names_okP (by kernel_rfl)) (fun A' L q cd hh' => Q_siftdown F hh')
def B_siftup (ad : Ad) : PTx LF :=
  (pseq
  (pbind (pbind (pbind (pget "heap") fun a => pbind (pret []) fun as => pret (a :: as)) plen) fun v => pbind (pset "endpos" v) fun _ => pret .next)
  (pseq
  (pbind (pget "pos") fun v => pbind (pset "startpos" v) fun _ => pret .next)
  (pseq
  (pbind (pbind (pget "heap") fun a => pbind (pget "pos") fun b => plget a b) fun v => pbind (pset "newitem" v) fun _ => pret .next)
  (pseq
  (pbind (pbind (pbind (pret (.int 2)) fun a => pbind (pget "pos") fun b => pmul a b) fun a => pbind (pret (.int 1)) fun b => padd a b) fun v => pbind (pset "childpos" v) fun _ => pret .next)
  (pseq
  (pwhile (pbind (pget "childpos") fun a => pbind (pget "endpos") fun b => plt a b) (pseq
  (pbind (pbind (pget "childpos") fun a => pbind (pret (.int 1)) fun b => padd a b) fun v => pbind (pset "rightpos" v) fun _ => pret .next)
  (pseq
  (pif (pbind (pbind (pget "rightpos") fun a => pbind (pget "endpos") fun b => plt a b) fun b => fun Q E σ => if b = true then (pbind (pbind (pbind (pget "heap") fun a => pbind (pget "childpos") fun b => plget a b) fun a => pbind (pbind (pget "heap") fun a => pbind (pget "rightpos") fun b => plget a b) fun b => plt a b) fun b => pret (!b)) Q E σ else Q false σ) (pbind (pget "rightpos") fun v => pbind (pset "childpos" v) fun _ => pret .next) (pret .next))
  (pseq
  (pbind (pbind (pget "heap") fun a => pbind (pget "childpos") fun b => plget a b) fun v => pbind ((fun v => pbind (pget "heap") fun a => pbind (pget "pos") fun b => plset a b v) v) fun _ => pret .next)
  (pseq
  (pbind (pget "childpos") fun v => pbind (pset "pos" v) fun _ => pret .next)
  (pbind (pbind (pbind (pret (.int 2)) fun a => pbind (pget "pos") fun b => pmul a b) fun a => pbind (pret (.int 1)) fun b => padd a b) fun v => pbind (pset "childpos" v) fun _ => pret .next))))) (pret .next))
  (pseq
  (pbind (pget "newitem") fun v => pbind ((fun v => pbind (pget "heap") fun a => pbind (pget "pos") fun b => plset a b v) v) fun _ => pret .next)
  (pbind (pbind (pbind (pget "heap") fun a => pbind (pbind (pget "startpos") fun a => pbind (pbind (pget "pos") fun a => pbind (pret []) fun as => pret (a :: as)) fun as => pret (a :: as)) fun as => pret (a :: as)) (P_siftdown ad)) fun _ => pret .next)))))))
abbrev P_siftup (ad : Ad) : List LV → PTx LV := pdef (bndP ["heap", "pos"]) (B_siftup ad)
theorem Q_siftup {ad : Ad} (F : FactsL TS ad) (hh : A.handled = none) {L f : Addr} {q : Str} {cd : Value} : Sim prog w TS (n + 1) A (fenv (fnScope (fnAt PySem.Challenge.pw_nq0219_01 12)) L q f cd) (execs (fnBody (fnAt PySem.Challenge.pw_nq0219_01 12)) (fenv (fnScope (fnAt PySem.Challenge.pw_nq0219_01 12)) L q f cd)) FlRel (B_siftup ad) :=
  (sim_cons
  (sim_Assign_Name (x := "endpos") (.inl (by kernel_rfl)) (sim_CallB F.gl_len rfl (by kernel_rfl) (by kernel_rfl) rfl (sim_arg (sim_Name (x := "heap") (by kernel_rfl)) sim_arg_nil rfl) sim_len) (by kernel_rfl))
  (sim_cons
  (sim_Assign_Name (x := "startpos") (.inl (by kernel_rfl)) (sim_Name (x := "pos") (by kernel_rfl)) (by kernel_rfl))
  (sim_cons
  (sim_Assign_Name (x := "newitem") (.inl (by kernel_rfl)) (sim_Subscript (sim_Name (x := "heap") (by kernel_rfl)) (sim_Name (x := "pos") (by kernel_rfl)) (tail_plget (fun _ _ => rfl))) (by kernel_rfl))
  (sim_cons
  (sim_Assign_Name (x := "childpos") (.inl (by kernel_rfl)) (sim_BinOp (sim_BinOp sim_int (sim_Name (x := "pos") (by kernel_rfl)) sim_mul) sim_int sim_add) (by kernel_rfl))
  (sim_cons
  (sim_While rfl (sim_test_Compare (sim_Name (x := "childpos") (by kernel_rfl)) (sim_Name (x := "endpos") (by kernel_rfl)) sim_lt rfl) (sim_cons
  (sim_Assign_Name (x := "rightpos") (.inl (by kernel_rfl)) (sim_BinOp (sim_Name (x := "childpos") (by kernel_rfl)) sim_int sim_add) (by kernel_rfl))
  (sim_cons
  (sim_If (sim_test_And (sim_test_Compare (sim_Name (x := "rightpos") (by kernel_rfl)) (sim_Name (x := "endpos") (by kernel_rfl)) sim_lt rfl) (sim_test_Not (sim_test_Compare (sim_Subscript (sim_Name (x := "heap") (by kernel_rfl)) (sim_Name (x := "childpos") (by kernel_rfl)) (tail_plget (fun _ _ => rfl))) (sim_Subscript (sim_Name (x := "heap") (by kernel_rfl)) (sim_Name (x := "rightpos") (by kernel_rfl)) (tail_plget (fun _ _ => rfl))) sim_lt rfl))) (sim_one (sim_Assign_Name (x := "childpos") (.inl (by kernel_rfl)) (sim_Name (x := "rightpos") (by kernel_rfl)) (by kernel_rfl))) sim_nil)
  (sim_cons
  (sim_Assign (sim_Subscript (sim_Name (x := "heap") (by kernel_rfl)) (sim_Name (x := "childpos") (by kernel_rfl)) (tail_plget (fun _ _ => rfl))) (sim_tSub (sim_Name (x := "heap") (by kernel_rfl)) (sim_Name (x := "pos") (by kernel_rfl)) sim_plset) rfl rfl rfl)
  (sim_cons
  (sim_Assign_Name (x := "pos") (.inl (by kernel_rfl)) (sim_Name (x := "childpos") (by kernel_rfl)) (by kernel_rfl))
  (sim_one (sim_Assign_Name (x := "childpos") (.inl (by kernel_rfl)) (sim_BinOp (sim_BinOp sim_int (sim_Name (x := "pos") (by kernel_rfl)) sim_mul) sim_int sim_add) (by kernel_rfl))))))) sim_nil)
  (sim_cons
  (sim_Assign (sim_Name (x := "newitem") (by kernel_rfl)) (sim_tSub (sim_Name (x := "heap") (by kernel_rfl)) (sim_Name (x := "pos") (by kernel_rfl)) sim_plset) rfl rfl rfl)
  (sim_one (sim_Expr (sim_CallF F.gl_siftdown F.kp_siftdown (by kernel_rfl) (by kernel_rfl) rfl rfl (sim_arg (sim_Name (x := "heap") (by kernel_rfl)) (sim_arg (sim_Name (x := "startpos") (by kernel_rfl)) (sim_arg (sim_Name (x := "pos") (by kernel_rfl)) sim_arg_nil rfl) rfl) rfl) (S_siftdown F hh)) rfl rfl))))))))
theorem S_siftup {ad : Ad} (F : FactsL TS ad) (hh : A.handled = none) : SimF prog w TS (n + 2) A (.ref ad.siftup) (P_siftup ad) := by
  obtain ⟨o, fd, H, hb⟩ := F.fn_siftup
  exact sim_def H hh (bind_plain hb) (names_okP (by kernel_rfl)) (fun A' L q cd hh' => Q_siftup F hh')
def B_heappush (ad : Ad) : PTx LF :=
  (pseq
  (pbind (pbind (pget "heap") fun a => pbind (pislist a) fun _ => pbind (pbind (pget "item") fun a => pbind (pret []) fun as => pret (a :: as)) fun as => plappend a as) fun _ => pret .next)
  (pbind (pbind (pbind (pget "heap") fun a => pbind (pbind (pret (.int 0)) fun a => pbind (pbind (pbind (pbind (pbind (pget "heap") fun a => pbind (pret []) fun as => pret (a :: as)) plen) fun a => pbind (pret (.int 1)) fun b => psub a b) fun a => pbind (pret []) fun as => pret (a :: as)) fun as => pret (a :: as)) fun as => pret (a :: as)) (P_siftdown ad)) fun _ => pret .next))
abbrev P_heappush (ad : Ad) : List LV → PTx LV := pdef (bndP ["heap", "item"]) (B_heappush ad)
theorem Q_heappush {ad : Ad} (F : FactsL TS ad) (hh : A.handled = none) {L f : Addr} {q : Str} {cd : Value} : Sim prog w TS (n + 1) A (fenv (fnScope (fnAt PySem.Challenge.pw_nq0219_01 8)) L q f cd) (execs (fnBody (fnAt PySem.Challenge.pw_nq0219_01 8)) (fenv (fnScope (fnAt PySem.Challenge.pw_nq0219_01 8)) L q f cd)) FlRel (B_heappush ad) :=
  (sim_cons
  (sim_Expr (sim_CallM PySem.F.plainAttrs_list PySem.F.slot_list_append PySem.F.type_list_append rfl rfl rfl rfl (sim_Name (x := "heap") (by kernel_rfl)) isOf_list (sim_arg (sim_Name (x := "item") (by kernel_rfl)) sim_arg_nil rfl) sim_append) rfl rfl)
  (sim_one (sim_Expr (sim_CallF F.gl_siftdown F.kp_siftdown (by kernel_rfl) (by kernel_rfl) rfl rfl (sim_arg (sim_Name (x := "heap") (by kernel_rfl)) (sim_arg sim_int (sim_arg (sim_BinOp (sim_CallB F.gl_len rfl (by kernel_rfl) (by kernel_rfl) rfl (sim_arg (sim_Name (x := "heap") (by kernel_rfl)) sim_arg_nil rfl) sim_len) sim_int sim_sub) sim_arg_nil rfl) rfl) rfl) (S_siftdown F hh)) rfl rfl)))
theorem S_heappush {ad : Ad} (F : FactsL TS ad) (hh : A.handled = none) : SimF prog w TS (n + 2) A (.ref ad.heappush) (P_heappush ad) := by
  obtain ⟨o, fd, H, hb⟩ := F.fn_heappush
  exact sim_def H hh (bind_plain hb) (names_okP (by kernel_rfl)) (fun A' L q cd hh' => Q_heappush F hh')
def B_heappop (ad : Ad) : PTx LF :=
  (pseq
  (pbind (pbind (pget "heap") fun a => pbind (pislist a) fun _ => pbind (pret []) fun as => plpop a as) fun v => pbind (pset "lastelt" v) fun _ => pret .next)
  (pseq
  (pif (pbind (pget "heap") ptruth) (pseq
  (pbind (pbind (pget "heap") fun a => pbind (pret (.int 0)) fun b => plget a b) fun v => pbind (pset "returnitem" v) fun _ => pret .next)
  (pseq
  (pbind (pget "lastelt") fun v => pbind ((fun v => pbind (pget "heap") fun a => pbind (pret (.int 0)) fun b => plset a b v) v) fun _ => pret .next)
  (pseq
  (pbind (pbind (pbind (pget "heap") fun a => pbind (pbind (pret (.int 0)) fun a => pbind (pret []) fun as => pret (a :: as)) fun as => pret (a :: as)) (P_siftup ad)) fun _ => pret .next)
  (pbind (pget "returnitem") fun v => pret (.ret v))))) (pret .next))
  (pbind (pget "lastelt") fun v => pret (.ret v))))
abbrev P_heappop (ad : Ad) : List LV → PTx LV := pdef (bndP ["heap"]) (B_heappop ad)
theorem Q_heappop {ad : Ad} (F : FactsL TS ad) (hh : A.handled = none) {L f : Addr} {q : Str} {cd : Value} : Sim prog w TS (n + 2) A (fenv (fnScope (fnAt PySem.Challenge.pw_nq0219_01 9)) L q f cd) (execs (fnBody (fnAt PySem.Challenge.pw_nq0219_01 9)) (fenv (fnScope (fnAt PySem.Challenge.pw_nq0219_01 9)) L q f cd)) FlRel (B_heappop ad) :=
  (sim_cons
  (sim_Assign_Name (x := "lastelt") (.inl (by kernel_rfl)) (sim_CallM PySem.F.plainAttrs_list PySem.F.slot_list_pop PySem.F.type_list_pop rfl rfl rfl rfl (sim_Name (x := "heap") (by kernel_rfl)) isOf_list sim_arg_nil sim_pop) (by kernel_rfl))
  (sim_cons
  (sim_If (sim_test_val (sim_Name (x := "heap") (by kernel_rfl)) sim_truth rfl) (sim_cons
  (sim_Assign_Name (x := "returnitem") (.inl (by kernel_rfl)) (sim_Subscript (sim_Name (x := "heap") (by kernel_rfl)) sim_int (tail_plget (fun _ _ => rfl))) (by kernel_rfl))
  (sim_cons
  (sim_Assign (sim_Name (x := "lastelt") (by kernel_rfl)) (sim_tSub (sim_Name (x := "heap") (by kernel_rfl)) sim_int sim_plset) rfl rfl rfl)
  (sim_cons
  (sim_Expr (sim_CallF F.gl_siftup F.kp_siftup (by kernel_rfl) (by kernel_rfl) rfl rfl (sim_arg (sim_Name (x := "heap") (by kernel_rfl)) (sim_arg sim_int sim_arg_nil rfl) rfl) (S_siftup F hh)) rfl rfl)
  (sim_one (sim_Return (sim_Name (x := "returnitem") (by kernel_rfl))))))) sim_nil)
  (sim_one (sim_Return (sim_Name (x := "lastelt") (by kernel_rfl))))))
theorem S_heappop {ad : Ad} (F : FactsL TS ad) (hh : A.handled = none) : SimF prog w TS (n + 3) A (.ref ad.heappop) (P_heappop ad) := by
  obtain ⟨o, fd, H, hb⟩ := F.fn_heappop
  exact sim_def H hh (bind_plain hb) (names_okP (by kernel_rfl)) (fun A' L q cd hh' => Q_heappop F hh')
def B_heapify (ad : Ad) : PTx LF :=
  (pseq
  (pbind (pbind (pbind (pget "x") fun a => pbind (pret []) fun as => pret (a :: as)) plen) fun v => pbind (pset "n" v) fun _ => pret .next)
  (pfor (pbind (pbind (pbind (pbind (pget "n") fun a => pbind (pret (.int 2)) fun b => pdiv a b) fun a => pbind (pret []) fun as => pret (a :: as)) prange1) prevr) (pset "i") (pbind (pbind (pbind (pget "x") fun a => pbind (pbind (pget "i") fun a => pbind (pret []) fun as => pret (a :: as)) fun as => pret (a :: as)) (P_siftup ad)) fun _ => pret .next) (pret .next)))
abbrev P_heapify (ad : Ad) : List LV → PTx LV := pdef (bndP ["x"]) (B_heapify ad)
theorem Q_heapify {ad : Ad} (F : FactsL TS ad) (hh : A.handled = none) {L f : Addr} {q : Str} {cd : Value} : Sim prog w TS (n + 2) A (fenv (fnScope (fnAt PySem.Challenge.pw_nq0219_01 10)) L q f cd) (execs (fnBody (fnAt PySem.Challenge.pw_nq0219_01 10)) (fenv (fnScope (fnAt PySem.Challenge.pw_nq0219_01 10)) L q f cd)) FlRel (B_heapify ad) :=
  (sim_cons
  (sim_Assign_Name (x := "n") (.inl (by kernel_rfl)) (sim_CallB F.gl_len rfl (by kernel_rfl) (by kernel_rfl) rfl (sim_arg (sim_Name (x := "x") (by kernel_rfl)) sim_arg_nil rfl) sim_len) (by kernel_rfl))
  (sim_one (sim_For rfl (it_revr hh F.gl_reversed (by kernel_rfl) rfl (sim_CallB F.gl_range rfl (by kernel_rfl) (by kernel_rfl) rfl (sim_arg (sim_BinOp (sim_Name (x := "n") (by kernel_rfl)) sim_int sim_div) sim_arg_nil rfl) sim_range1)) (sim_tName (x := "i") (.inl (by kernel_rfl))) (sim_one (sim_Expr (sim_CallF F.gl_siftup F.kp_siftup (by kernel_rfl) (by kernel_rfl) rfl rfl (sim_arg (sim_Name (x := "x") (by kernel_rfl)) (sim_arg (sim_Name (x := "i") (by kernel_rfl)) sim_arg_nil rfl) rfl) (S_siftup F hh)) rfl rfl)) sim_nil (fun _ => rfl))))
theorem S_heapify {ad : Ad} (F : FactsL TS ad) (hh : A.handled = none) : SimF prog w TS (n + 3) A (.ref ad.heapify) (P_heapify ad) := by
  obtain ⟨o, fd, H, hb⟩ := F.fn_heapify
  exact sim_def H hh (bind_plain hb) (names_okP (by kernel_rfl)) (fun A' L q cd hh' => Q_heapify F hh')
def B_sorted_list_difference (ad : Ad) : PTx LF :=
  (pseq
  (pbind (pret (.int 0)) fun v => pbind ((pset "i") v) fun _ => pbind ((pset "j") v) fun _ => pret .next)
  (pseq
  (pbind (pbind (pret []) plist) fun v => pbind (pset "missing" v) fun _ => pret .next)
  (pseq
  (pbind (pbind (pret []) plist) fun v => pbind (pset "unexpected" v) fun _ => pret .next)
  (pseq
  (pwhile (pbind (pret (.bool true)) ptruth) (fun Q E σ => (pseq
  (pbind (pbind (pget "expected") fun a => pbind (pget "i") fun b => plitem a b) fun v => pbind (pset "e" v) fun _ => pret .next)
  (pseq
  (pbind (pbind (pget "actual") fun a => pbind (pget "j") fun b => plitem a b) fun v => pbind (pset "a" v) fun _ => pret .next)
  (pif (pbind (pget "e") fun a => pbind (pget "a") fun b => plt a b) (pseq
  (pbind (pbind (pget "missing") fun a => pbind (pislist a) fun _ => pbind (pbind (pget "e") fun a => pbind (pret []) fun as => pret (a :: as)) fun as => plappend a as) fun _ => pret .next)
  (pseq
  (pbind (pget "i") fun a => pbind (pret (.int 1)) fun b => pbind (padd a b) fun v => pbind (pset "i" v) fun _ => pret .next)
  (pwhile (pbind (pbind (pget "expected") fun a => pbind (pget "i") fun b => plitem a b) fun a => pbind (pget "e") fun b => peq a b) (pbind (pget "i") fun a => pbind (pret (.int 1)) fun b => pbind (padd a b) fun v => pbind (pset "i" v) fun _ => pret .next) (pret .next)))) (pif (pbind (pget "e") fun a => pbind (pget "a") fun b => pgt a b) (pseq
  (pbind (pbind (pget "unexpected") fun a => pbind (pislist a) fun _ => pbind (pbind (pget "a") fun a => pbind (pret []) fun as => pret (a :: as)) fun as => plappend a as) fun _ => pret .next)
  (pseq
  (pbind (pget "j") fun a => pbind (pret (.int 1)) fun b => pbind (padd a b) fun v => pbind (pset "j" v) fun _ => pret .next)
  (pwhile (pbind (pbind (pget "actual") fun a => pbind (pget "j") fun b => plitem a b) fun a => pbind (pget "a") fun b => peq a b) (pbind (pget "j") fun a => pbind (pret (.int 1)) fun b => pbind (padd a b) fun v => pbind (pset "j" v) fun _ => pret .next) (pret .next)))) (pseq
  (pbind (pget "i") fun a => pbind (pret (.int 1)) fun b => pbind (padd a b) fun v => pbind (pset "i" v) fun _ => pret .next)
  (fun Q E σ => (pwhile (pbind (pbind (pget "expected") fun a => pbind (pget "i") fun b => plitem a b) fun a => pbind (pget "e") fun b => peq a b) (pbind (pget "i") fun a => pbind (pret (.int 1)) fun b => pbind (padd a b) fun v => pbind (pset "i" v) fun _ => pret .next) (pret .next)) (fun f σ' => (pseq
  (pbind (pget "j") fun a => pbind (pret (.int 1)) fun b => pbind (padd a b) fun v => pbind (pset "j" v) fun _ => pret .next)
  (pwhile (pbind (pbind (pget "actual") fun a => pbind (pget "j") fun b => plitem a b) fun a => pbind (pget "a") fun b => peq a b) (pbind (pget "j") fun a => pbind (pret (.int 1)) fun b => pbind (padd a b) fun v => pbind (pset "j" v) fun _ => pret .next) (pret .next))) (fun g σ'' => match g with | .next => Q f σ'' | g => Q g σ'') E σ') (fun x σ' => x.ctx = false ∧ (pseq
  (pbind (pget "j") fun a => pbind (pret (.int 1)) fun b => pbind (padd a b) fun v => pbind (pset "j" v) fun _ => pret .next)
  (pwhile (pbind (pbind (pget "actual") fun a => pbind (pget "j") fun b => plitemH a b) fun a => pbind (pget "a") fun b => peq a b) (pbind (pget "j") fun a => pbind (pret (.int 1)) fun b => pbind (padd a b) fun v => pbind (pset "j" v) fun _ => pret .next) (pret .next))) (fun g σ'' => match g with | .next => E x σ'' | _ => False) E σ') σ)))))) Q (fun x σ' => x.name = "IndexError" ∧ (pseq
  (pbind (pbind (pget "missing") fun a => pbind (pislist a) fun _ => pbind (pbind (pbind (pget "expected") fun a => pbind (pget "i") fun b => pfrom a b) fun a => pbind (pret []) fun as => pret (a :: as)) fun as => plextend a as) fun _ => pret .next)
  (pseq
  (pbind (pbind (pget "unexpected") fun a => pbind (pislist a) fun _ => pbind (pbind (pbind (pget "actual") fun a => pbind (pget "j") fun b => pfrom a b) fun a => pbind (pret []) fun as => pret (a :: as)) fun as => plextend a as) fun _ => pret .next)
  (pret .brk))) Q noE σ') σ) (pret .next))
  (pbind (pbind (pbind (pget "missing") fun a => pbind (pbind (pget "unexpected") fun a => pbind (pret []) fun as => pret (a :: as)) fun as => pret (a :: as)) ptuple) fun v => pret (.ret v))))))
abbrev P_sorted_list_difference (ad : Ad) : List LV → PTx LV := pdef (bndP ["expected", "actual"]) (B_sorted_list_difference ad)
theorem Q_sorted_list_difference {ad : Ad} (F : FactsL TS ad) (hh : A.handled = none) {L f : Addr} {q : Str} {cd : Value} : Sim prog w TS (n + 0) A (fenv (fnScope (fnAt PySem.Challenge.pw_nq0219_01 14)) L q f cd) (execs (fnBody (fnAt PySem.Challenge.pw_nq0219_01 14)) (fenv (fnScope (fnAt PySem.Challenge.pw_nq0219_01 14)) L q f cd)) FlRel (B_sorted_list_difference ad) :=
  (sim_cons
  (sim_Assign2 sim_int (sim_tName (x := "i") (.inl (by kernel_rfl))) (sim_tName (x := "j") (.inl (by kernel_rfl))) rfl rfl)
  (sim_cons
  (sim_Assign_Name (x := "missing") (.inl (by kernel_rfl)) (sim_List sim_arg_nil) (by kernel_rfl))
  (sim_cons
  (sim_Assign_Name (x := "unexpected") (.inl (by kernel_rfl)) (sim_List sim_arg_nil) (by kernel_rfl))
  (sim_cons
  (sim_While rfl (sim_test_val sim_bool sim_truth rfl) (sim_one (sim_TryExcept rfl F.gl_IndexError (by kernel_rfl) (by kernel_rfl) ex_IndexError.1 ex_IndexError.2.1 ex_IndexError.2.2 (sim_cons
  (sim_Assign_Name (x := "e") (.inl (by kernel_rfl)) (sim_Subscript (sim_Name (x := "expected") (by kernel_rfl)) (sim_Name (x := "i") (by kernel_rfl)) (tail_plitem hh (fun _ _ => rfl))) (by kernel_rfl))
  (sim_cons
  (sim_Assign_Name (x := "a") (.inl (by kernel_rfl)) (sim_Subscript (sim_Name (x := "actual") (by kernel_rfl)) (sim_Name (x := "j") (by kernel_rfl)) (tail_plitem hh (fun _ _ => rfl))) (by kernel_rfl))
  (sim_one (sim_If (sim_test_Compare (sim_Name (x := "e") (by kernel_rfl)) (sim_Name (x := "a") (by kernel_rfl)) sim_lt rfl) (sim_cons
  (sim_Expr (sim_CallM PySem.F.plainAttrs_list PySem.F.slot_list_append PySem.F.type_list_append rfl rfl rfl rfl (sim_Name (x := "missing") (by kernel_rfl)) isOf_list (sim_arg (sim_Name (x := "e") (by kernel_rfl)) sim_arg_nil rfl) sim_append) rfl rfl)
  (sim_cons
  (sim_AugAssign_Name (x := "i") (.inl (by kernel_rfl)) (by kernel_rfl) sim_int sim_iadd)
  (sim_one (sim_While rfl (sim_test_Compare (sim_Subscript (sim_Name (x := "expected") (by kernel_rfl)) (sim_Name (x := "i") (by kernel_rfl)) (tail_plitem hh (fun _ _ => rfl))) (sim_Name (x := "e") (by kernel_rfl)) sim_eq rfl) (sim_one (sim_AugAssign_Name (x := "i") (.inl (by kernel_rfl)) (by kernel_rfl) sim_int sim_iadd)) sim_nil)))) (sim_one (sim_If (sim_test_Compare (sim_Name (x := "e") (by kernel_rfl)) (sim_Name (x := "a") (by kernel_rfl)) sim_gt rfl) (sim_cons
  (sim_Expr (sim_CallM PySem.F.plainAttrs_list PySem.F.slot_list_append PySem.F.type_list_append rfl rfl rfl rfl (sim_Name (x := "unexpected") (by kernel_rfl)) isOf_list (sim_arg (sim_Name (x := "a") (by kernel_rfl)) sim_arg_nil rfl) sim_append) rfl rfl)
  (sim_cons
  (sim_AugAssign_Name (x := "j") (.inl (by kernel_rfl)) (by kernel_rfl) sim_int sim_iadd)
  (sim_one (sim_While rfl (sim_test_Compare (sim_Subscript (sim_Name (x := "actual") (by kernel_rfl)) (sim_Name (x := "j") (by kernel_rfl)) (tail_plitem hh (fun _ _ => rfl))) (sim_Name (x := "a") (by kernel_rfl)) sim_eq rfl) (sim_one (sim_AugAssign_Name (x := "j") (.inl (by kernel_rfl)) (by kernel_rfl) sim_int sim_iadd)) sim_nil)))) (sim_cons
  (sim_AugAssign_Name (x := "i") (.inl (by kernel_rfl)) (by kernel_rfl) sim_int sim_iadd)
  (sim_one (sim_TryFinally rfl (sim_one (sim_While rfl (sim_test_Compare (sim_Subscript (sim_Name (x := "expected") (by kernel_rfl)) (sim_Name (x := "i") (by kernel_rfl)) (tail_plitem hh (fun _ _ => rfl))) (sim_Name (x := "e") (by kernel_rfl)) sim_eq rfl) (sim_one (sim_AugAssign_Name (x := "i") (.inl (by kernel_rfl)) (by kernel_rfl) sim_int sim_iadd)) sim_nil)) (sim_cons
  (sim_AugAssign_Name (x := "j") (.inl (by kernel_rfl)) (by kernel_rfl) sim_int sim_iadd)
  (sim_one (sim_While rfl (sim_test_Compare (sim_Subscript (sim_Name (x := "actual") (by kernel_rfl)) (sim_Name (x := "j") (by kernel_rfl)) (tail_plitem hh (fun _ _ => rfl))) (sim_Name (x := "a") (by kernel_rfl)) sim_eq rfl) (sim_one (sim_AugAssign_Name (x := "j") (.inl (by kernel_rfl)) (by kernel_rfl) sim_int sim_iadd)) sim_nil))) (fun e0 => (sim_cons
  (sim_AugAssign_Name (x := "j") (.inl (by kernel_rfl)) (by kernel_rfl) sim_int sim_iadd)
  (sim_one (sim_While rfl (sim_test_Compare (sim_Subscript (sim_Name (x := "actual") (by kernel_rfl)) (sim_Name (x := "j") (by kernel_rfl)) (tail_plitemH (e0 := e0) F.hon rfl (fun _ _ => rfl))) (sim_Name (x := "a") (by kernel_rfl)) sim_eq rfl) (sim_one (sim_AugAssign_Name (x := "j") (.inl (by kernel_rfl)) (by kernel_rfl) sim_int sim_iadd)) sim_nil))))))))))))) (fun e0 => (sim_cons
  (sim_Expr (sim_CallM PySem.F.plainAttrs_list PySem.F.slot_list_extend PySem.F.type_list_extend rfl rfl rfl rfl (sim_Name (x := "missing") (by kernel_rfl)) isOf_list (sim_arg (sim_from (sim_Name (x := "expected") (by kernel_rfl)) (sim_Name (x := "i") (by kernel_rfl)) (fun _ _ => rfl)) sim_arg_nil rfl) sim_extend) rfl rfl)
  (sim_cons
  (sim_Expr (sim_CallM PySem.F.plainAttrs_list PySem.F.slot_list_extend PySem.F.type_list_extend rfl rfl rfl rfl (sim_Name (x := "unexpected") (by kernel_rfl)) isOf_list (sim_arg (sim_from (sim_Name (x := "actual") (by kernel_rfl)) (sim_Name (x := "j") (by kernel_rfl)) (fun _ _ => rfl)) sim_arg_nil rfl) sim_extend) rfl rfl)
  (sim_one sim_Break)))))) sim_nil)
  (sim_one (sim_Return (sim_Tuple (sim_arg (sim_Name (x := "missing") (by kernel_rfl)) (sim_arg (sim_Name (x := "unexpected") (by kernel_rfl)) sim_arg_nil rfl) rfl))))))))
theorem S_sorted_list_difference {ad : Ad} (F : FactsL TS ad) (hh : A.handled = none) : SimF prog w TS (n + 1) A (.ref ad.sld) (P_sorted_list_difference ad) := by
  obtain ⟨o, fd, H, hb⟩ := F.fn_sorted_list_difference
  exact sim_def H hh (bind_plain hb) (names_okP (by kernel_rfl)) (fun A' L q cd hh' => Q_sorted_list_difference F hh')
def B_initN (ad : Ad) : PTx LF :=
  (pseq
  (pbind (pget "node") fun v => pbind (pget "self") fun a9 => pbind (psetS ad.CN 0 a9 v) fun _ => pret .next)
  (pseq
  (pbind (pret (.int 0)) fun v => pbind (pget "self") fun a9 => pbind (psetS ad.CN 1 a9 v) fun _ => pret .next)
  (pbind (pbind (pret []) plist) fun v => pbind (pget "self") fun a9 => pbind (psetS ad.CN 2 a9 v) fun _ => pret .next)))
abbrev P_initN (ad : Ad) : List LV → PTx LV := pdef (bndP ["self", "node"]) (B_initN ad)
theorem Q_initN {ad : Ad} (F : FactsL TS ad) (hh : A.handled = none) {L f : Addr} {q : Str} {cd : Value} : Sim prog w TS (n + 0) A (fenv (fnScope (inAt (fnAt PySem.Challenge.pw_nq0219_01 4) 1)) L q f cd) (execs (fnBody (inAt (fnAt PySem.Challenge.pw_nq0219_01 4) 1)) (fenv (fnScope (inAt (fnAt PySem.Challenge.pw_nq0219_01 4) 1)) L q f cd)) FlRel (B_initN ad) :=
  (sim_cons
  (sim_AssignAttr (sim_Name (x := "node") (by kernel_rfl)) (sim_Name (x := "self") (by kernel_rfl)) (sim_setS F.stN F.poN F.snode.k F.snode.y F.snode.s (by decide)) rfl)
  (sim_cons
  (sim_AssignAttr sim_int (sim_Name (x := "self") (by kernel_rfl)) (sim_setS F.stN F.poN F.snpredecessors.k F.snpredecessors.y F.snpredecessors.s (by decide)) rfl)
  (sim_one (sim_AssignAttr (sim_List sim_arg_nil) (sim_Name (x := "self") (by kernel_rfl)) (sim_setS F.stN F.poN F.ssuccessors.k F.ssuccessors.y F.ssuccessors.s (by decide)) rfl))))
theorem S_initN {ad : Ad} (F : FactsL TS ad) (hh : A.handled = none) : SimF prog w TS (n + 1) A (.ref ad.initN) (P_initN ad) := by
  obtain ⟨o, fd, H, hb⟩ := F.fn_initN
  exact sim_def H hh (bind_plain hb) (names_okP (by kernel_rfl)) (fun A' L q cd hh' => Q_initN F hh')
abbrev P_N (ad : Ad) : List LV → PTx LV := pmake ad.CN (P_initN ad)
theorem up_N {ad : Ad} (F : FactsL TS ad) (hh : A.handled = none) : SimF prog w TS (n + 2) A (.ref ad.CN) (P_N ad) := sim_make F.mkN F.inN F.tiN hh fun A' h' => S_initN F h'
def B_get_nodeinfo (ad : Ad) : PTx LF :=
  (pseq
  (pif (pbind (pbind (pbind (pbind (pget "self") (pgetD ad.CT "_node2info")) fun a => pbind (pisdict a) fun _ => pbind (pbind (pget "node") fun a => pbind (pret []) fun as => pret (a :: as)) fun as => pdget1 a as) fun v => pbind ((pset "result") v) fun _ => pret v) fun a => pbind (pret .none) fun b => pisNone a b) (pbind (pbind (pbind (pget "node") fun a => pbind (pret []) fun as => pret (a :: as)) (P_N ad)) fun v => pbind ((fun v => pbind (pbind (pget "self") (pgetD ad.CT "_node2info")) fun a => pbind (pget "node") fun b => pdset a b v) v) fun _ => pbind ((pset "result") v) fun _ => pret .next) (pret .next))
  (pbind (pget "result") fun v => pret (.ret v)))
abbrev P_get_nodeinfo (ad : Ad) : List LV → PTx LV := pdef (bndP ["self", "node"]) (B_get_nodeinfo ad)
theorem Q_get_nodeinfo {ad : Ad} (F : FactsL TS ad) (hh : A.handled = none) {L f : Addr} {q : Str} {cd : Value} : Sim prog w TS (n + 2) A (fenv (fnScope (inAt (fnAt PySem.Challenge.pw_nq0219_01 6) 1)) L q f cd) (execs (fnBody (inAt (fnAt PySem.Challenge.pw_nq0219_01 6) 1)) (fenv (fnScope (inAt (fnAt PySem.Challenge.pw_nq0219_01 6) 1)) L q f cd)) FlRel (B_get_nodeinfo ad) :=
  (sim_cons
  (sim_If (sim_test_Compare (sim_NamedExpr (sim_CallM PySem.F.plainAttrs_dict PySem.F.slot_dict_get PySem.F.type_dict_get rfl rfl rfl rfl (sim_Attr (sim_Name (x := "self") (by kernel_rfl)) (sim_getD (F.pgT _) F.hdT F.at_node2info) (by with_unfolding_all rfl)) isOf_dict (sim_arg (sim_Name (x := "node") (by kernel_rfl)) sim_arg_nil rfl) sim_get1) (sim_tName (x := "result") (.inl (by kernel_rfl)))) sim_none sim_isNone rfl) (sim_one (sim_Assign2 (sim_CallF F.gl_CN F.kp_CN (by kernel_rfl) (by kernel_rfl) rfl rfl (sim_arg (sim_Name (x := "node") (by kernel_rfl)) sim_arg_nil rfl) (up_N F hh)) (sim_tSub (sim_Attr (sim_Name (x := "self") (by kernel_rfl)) (sim_getD (F.pgT _) F.hdT F.at_node2info) (by with_unfolding_all rfl)) (sim_Name (x := "node") (by kernel_rfl)) sim_pdset) (sim_tName (x := "result") (.inl (by kernel_rfl))) rfl rfl)) sim_nil)
  (sim_one (sim_Return (sim_Name (x := "result") (by kernel_rfl)))))
theorem S_get_nodeinfo {ad : Ad} (F : FactsL TS ad) (hh : A.handled = none) : SimF prog w TS (n + 3) A (.ref ad.get) (P_get_nodeinfo ad) := by
  obtain ⟨o, fd, H, hb⟩ := F.fn_get_nodeinfo
  exact sim_def H hh (bind_plain hb) (names_okP (by kernel_rfl)) (fun A' L q cd hh' => Q_get_nodeinfo F hh')
def B_add (ad : Ad) : PTx LF :=
  (pseq
  (pif (pbind (pbind (pget "self") (pgetD ad.CT "_ready_nodes")) fun a => pbind (pret .none) fun b => pisNotNone a b) pfail (pret .next))
  (pseq
  (pbind (pbind (pget "self") fun a9 => pbind (pisinst ad.CT "_get_nodeinfo" a9) fun _ => pbind (pbind (pget "node") fun a => pbind (pret []) fun as => pret (a :: as)) fun as => P_get_nodeinfo ad (a9 :: as)) fun v => pbind (pset "nodeinfo" v) fun _ => pret .next)
  (pseq
  (pbind (pget "nodeinfo") fun a9 => pbind (pgetS ad.CN 1 a9) fun u => pbind (pbind (pbind (pget "predecessors") fun a => pbind (pret []) fun as => pret (a :: as)) plen) fun v => pbind (padd u v) fun z => pbind (psetS ad.CN 1 a9 z) fun _ => pret .next)
  (pfor (pbind (pget "predecessors") ptitems) (pset "pred") (pseq
  (pbind (pbind (pget "self") fun a9 => pbind (pisinst ad.CT "_get_nodeinfo" a9) fun _ => pbind (pbind (pget "pred") fun a => pbind (pret []) fun as => pret (a :: as)) fun as => P_get_nodeinfo ad (a9 :: as)) fun v => pbind (pset "pred_info" v) fun _ => pret .next)
  (pbind (pbind (pbind (pget "pred_info") (pgetS ad.CN 2)) fun a => pbind (pislist a) fun _ => pbind (pbind (pget "node") fun a => pbind (pret []) fun as => pret (a :: as)) fun as => plappend a as) fun _ => pret .next)) (pret .next)))))
abbrev P_add (ad : Ad) : List LV → PTx LV := pdef (bndV ["self", "node"] "predecessors") (B_add ad)
theorem Q_add {ad : Ad} (F : FactsL TS ad) (hh : A.handled = none) {L f : Addr} {q : Str} {cd : Value} : Sim prog w TS (n + 3) A (fenv (fnScope (inAt (fnAt PySem.Challenge.pw_nq0219_01 6) 2)) L q f cd) (execs (fnBody (inAt (fnAt PySem.Challenge.pw_nq0219_01 6) 2)) (fenv (fnScope (inAt (fnAt PySem.Challenge.pw_nq0219_01 6) 2)) L q f cd)) FlRel (B_add ad) :=
  (sim_cons
  (sim_If (sim_test_Compare (sim_Attr (sim_Name (x := "self") (by kernel_rfl)) (sim_getD (F.pgT _) F.hdT F.at_ready_nodes) (by with_unfolding_all rfl)) sim_none sim_isNotNone rfl) (sim_one sim_fail) sim_nil)
  (sim_cons
  (sim_Assign_Name (x := "nodeinfo") (.inl (by kernel_rfl)) (sim_CallMeth (F.pgT _) F.m_get_nodeinfo.f F.m_get_nodeinfo.n F.m_get_nodeinfo.k rfl rfl rfl (sim_Name (x := "self") (by kernel_rfl)) (sim_arg (sim_Name (x := "node") (by kernel_rfl)) sim_arg_nil rfl) (S_get_nodeinfo F hh)) (by kernel_rfl))
  (sim_cons
  (sim_AugAttr (sim_Name (x := "nodeinfo") (by kernel_rfl)) (sim_getS (F.pgN _) F.clN F.snpredecessors.f F.snpredecessors.g F.snpredecessors.t F.snpredecessors.s) (sim_CallB F.gl_len rfl (by kernel_rfl) (by kernel_rfl) rfl (sim_arg (sim_Name (x := "predecessors") (by kernel_rfl)) sim_arg_nil rfl) sim_len) sim_iadd (sim_setS F.stN F.poN F.snpredecessors.k F.snpredecessors.y F.snpredecessors.s (by decide)))
  (sim_one (sim_For rfl (it_tuple hh (sim_Name (x := "predecessors") (by kernel_rfl))) (sim_tName (x := "pred") (.inl (by kernel_rfl))) (sim_cons
  (sim_Assign_Name (x := "pred_info") (.inl (by kernel_rfl)) (sim_CallMeth (F.pgT _) F.m_get_nodeinfo.f F.m_get_nodeinfo.n F.m_get_nodeinfo.k rfl rfl rfl (sim_Name (x := "self") (by kernel_rfl)) (sim_arg (sim_Name (x := "pred") (by kernel_rfl)) sim_arg_nil rfl) (S_get_nodeinfo F hh)) (by kernel_rfl))
  (sim_one (sim_Expr (sim_CallM PySem.F.plainAttrs_list PySem.F.slot_list_append PySem.F.type_list_append rfl rfl rfl rfl (sim_Attr (sim_Name (x := "pred_info") (by kernel_rfl)) (sim_getS (F.pgN _) F.clN F.ssuccessors.f F.ssuccessors.g F.ssuccessors.t F.ssuccessors.s) (by with_unfolding_all rfl)) isOf_list (sim_arg (sim_Name (x := "node") (by kernel_rfl)) sim_arg_nil rfl) sim_append) rfl rfl))) sim_nil (fun _ => rfl))))))
theorem S_add {ad : Ad} (F : FactsL TS ad) (hh : A.handled = none) : SimF prog w TS (n + 4) A (.ref ad.add) (P_add ad) := by
  obtain ⟨o, fd, H, hp, hd⟩ := F.fn_add
  exact sim_def H hh (bind_vararg fun pre rest hl => va_add hp hd pre rest hl) (names_okV (by kernel_rfl)) (fun A' L q cd hh' => Q_add F hh')
def B_initT (ad : Ad) : PTx LF :=
  (pseq
  (pbind pdict0 fun v => pbind (pget "self") fun a9 => pbind (psetD ad.CT "_node2info" a9 v) fun _ => pret .next)
  (pseq
  (pbind (pret .none) fun v => pbind (pget "self") fun a9 => pbind (psetD ad.CT "_ready_nodes" a9 v) fun _ => pret .next)
  (pseq
  (pbind (pret (.int 0)) fun v => pbind (pget "self") fun a9 => pbind (psetD ad.CT "_npassedout" a9 v) fun _ => pret .next)
  (pseq
  (pbind (pret (.int 0)) fun v => pbind (pget "self") fun a9 => pbind (psetD ad.CT "_nfinished" a9 v) fun _ => pret .next)
  (pif (pbind (pget "graph") fun a => pbind (pret .none) fun b => pisNotNone a b) (pfor (pbind (pget "graph") fun a => pbind (pisdict a) fun _ => pents a) (ptupT [(pset "node"), (pset "predecessors")]) (pbind (pbind (pget "self") fun a9 => pbind (pisinst ad.CT "add" a9) fun _ => pbind (pbind (pget "node") fun a => pbind (pbind (pget "predecessors") pstar) fun as => pret (a :: as)) fun as => P_add ad (a9 :: as)) fun _ => pret .next) (pret .next)) (pret .next))))))
abbrev P_initT (ad : Ad) : List LV → PTx LV := pdef (bndP ["self", "graph"]) (B_initT ad)
theorem Q_initT {ad : Ad} (F : FactsL TS ad) (hh : A.handled = none) {L f : Addr} {q : Str} {cd : Value} : Sim prog w TS (n + 4) A (fenv (fnScope (inAt (fnAt PySem.Challenge.pw_nq0219_01 6) 0)) L q f cd) (execs (fnBody (inAt (fnAt PySem.Challenge.pw_nq0219_01 6) 0)) (fenv (fnScope (inAt (fnAt PySem.Challenge.pw_nq0219_01 6) 0)) L q f cd)) FlRel (B_initT ad) :=
  (sim_cons
  (sim_AssignAttr sim_Dict0 (sim_Name (x := "self") (by kernel_rfl)) (sim_setD F.stT F.poT (taker_none F.at_node2info) F.hdT) rfl)
  (sim_cons
  (sim_AssignAttr sim_none (sim_Name (x := "self") (by kernel_rfl)) (sim_setD F.stT F.poT (taker_none F.at_ready_nodes) F.hdT) rfl)
  (sim_cons
  (sim_AssignAttr sim_int (sim_Name (x := "self") (by kernel_rfl)) (sim_setD F.stT F.poT (taker_none F.at_npassedout) F.hdT) rfl)
  (sim_cons
  (sim_AssignAttr sim_int (sim_Name (x := "self") (by kernel_rfl)) (sim_setD F.stT F.poT (taker_none F.at_nfinished) F.hdT) rfl)
  (sim_one (sim_If (sim_test_Compare (sim_Name (x := "graph") (by kernel_rfl)) sim_none sim_isNotNone rfl) (sim_one (sim_For rfl (it_ents hh rfl rfl (sim_Name (x := "graph") (by kernel_rfl))) (sim_tTuple hh (.cons (sim_tName (x := "node") (.inl (by kernel_rfl))) (.cons (sim_tName (x := "predecessors") (.inl (by kernel_rfl))) .nil))) (sim_one (sim_Expr (sim_CallMethS (F.pgT _) F.hdT F.m_add.f F.m_add.g F.m_add.t F.m_add.y F.m_add.i (by decide +kernel) rfl rfl rfl rfl (sim_Name (x := "self") (by kernel_rfl)) (sim_arg (sim_Name (x := "node") (by kernel_rfl)) (sim_arg_star (sim_Name (x := "predecessors") (by kernel_rfl)) rfl) rfl) (S_add F hh)) rfl rfl)) sim_nil (fun _ => rfl))) sim_nil))))))
theorem S_initT {ad : Ad} (F : FactsL TS ad) (hh : A.handled = none) : SimF prog w TS (n + 5) A (.ref ad.initT) (P_initT ad) := by
  obtain ⟨o, fd, H, hb⟩ := F.fn_initT
  exact sim_def H hh (bind_plain hb) (names_okP (by kernel_rfl)) (fun A' L q cd hh' => Q_initT F hh')
abbrev P_T (ad : Ad) : List LV → PTx LV := pmake ad.CT (P_initT ad)
theorem up_T {ad : Ad} (F : FactsL TS ad) (hh : A.handled = none) : SimF prog w TS (n + 6) A (.ref ad.CT) (P_T ad) := sim_make F.mkT F.inT F.tiT hh fun A' h' => S_initT F h'
def B_get_ready (ad : Ad) : PTx LF :=
  (pseq
  (pif (pbind (pbind (pget "self") (pgetD ad.CT "_ready_nodes")) fun a => pbind (pret .none) fun b => pisNone a b) pfail (pret .next))
  (pseq
  (pbind (pbind (pbind (pbind (pget "self") (pgetD ad.CT "_ready_nodes")) fun a => pbind (pret []) fun as => pret (a :: as)) ptupof) fun v => pbind (pset "result" v) fun _ => pret .next)
  (pseq
  (pbind (pbind (pget "self") (pgetD ad.CT "_node2info")) fun v => pbind (pset "n2i" v) fun _ => pret .next)
  (pseq
  (pfor (pbind (pget "result") ptitems) (pset "node") (pbind (pret (.int (-1))) fun v => pbind (pbind (pget "n2i") fun a => pbind (pget "node") fun b => pdget a b) fun a9 => pbind (psetS ad.CN 1 a9 v) fun _ => pret .next) (pret .next))
  (pseq
  (pbind (pbind (pbind (pget "self") (pgetD ad.CT "_ready_nodes")) fun a => pbind (pislist a) fun _ => pbind (pret []) fun as => plclear a as) fun _ => pret .next)
  (pseq
  (pbind (pget "self") fun a9 => pbind (pgetD ad.CT "_npassedout" a9) fun u => pbind (pbind (pbind (pget "result") fun a => pbind (pret []) fun as => pret (a :: as)) plen) fun v => pbind (padd u v) fun z => pbind (psetD ad.CT "_npassedout" a9 z) fun _ => pret .next)
  (pbind (pget "result") fun v => pret (.ret v))))))))
abbrev P_get_ready (ad : Ad) : List LV → PTx LV := pdef (bndP ["self"]) (B_get_ready ad)
theorem Q_get_ready {ad : Ad} (F : FactsL TS ad) (hh : A.handled = none) {L f : Addr} {q : Str} {cd : Value} : Sim prog w TS (n + 0) A (fenv (fnScope (inAt (fnAt PySem.Challenge.pw_nq0219_01 6) 4)) L q f cd) (execs (fnBody (inAt (fnAt PySem.Challenge.pw_nq0219_01 6) 4)) (fenv (fnScope (inAt (fnAt PySem.Challenge.pw_nq0219_01 6) 4)) L q f cd)) FlRel (B_get_ready ad) :=
  (sim_cons
  (sim_If (sim_test_Compare (sim_Attr (sim_Name (x := "self") (by kernel_rfl)) (sim_getD (F.pgT _) F.hdT F.at_ready_nodes) (by with_unfolding_all rfl)) sim_none sim_isNone rfl) (sim_one sim_fail) sim_nil)
  (sim_cons
  (sim_Assign_Name (x := "result") (.inl (by kernel_rfl)) (sim_CallB F.gl_tuple rfl (by kernel_rfl) (by kernel_rfl) rfl (sim_arg (sim_Attr (sim_Name (x := "self") (by kernel_rfl)) (sim_getD (F.pgT _) F.hdT F.at_ready_nodes) (by with_unfolding_all rfl)) sim_arg_nil rfl) sim_tupof) (by kernel_rfl))
  (sim_cons
  (sim_Assign_Name (x := "n2i") (.inl (by kernel_rfl)) (sim_Attr (sim_Name (x := "self") (by kernel_rfl)) (sim_getD (F.pgT _) F.hdT F.at_node2info) (by with_unfolding_all rfl)) (by kernel_rfl))
  (sim_cons
  (sim_For rfl (it_tuple hh (sim_Name (x := "result") (by kernel_rfl))) (sim_tName (x := "node") (.inl (by kernel_rfl))) (sim_one (sim_AssignAttr (sim_globInt F.gl_NODE_OUT (by kernel_rfl) (by kernel_rfl)) (sim_Subscript (sim_Name (x := "n2i") (by kernel_rfl)) (sim_Name (x := "node") (by kernel_rfl)) (tail_pdget (fun _ _ => rfl))) (sim_setS F.stN F.poN F.snpredecessors.k F.snpredecessors.y F.snpredecessors.s (by decide)) rfl)) sim_nil (fun _ => rfl))
  (sim_cons
  (sim_Expr (sim_CallM PySem.F.plainAttrs_list PySem.F.slot_list_clear PySem.F.type_list_clear rfl rfl rfl rfl (sim_Attr (sim_Name (x := "self") (by kernel_rfl)) (sim_getD (F.pgT _) F.hdT F.at_ready_nodes) (by with_unfolding_all rfl)) isOf_list sim_arg_nil sim_clear) rfl rfl)
  (sim_cons
  (sim_AugAttr (sim_Name (x := "self") (by kernel_rfl)) (sim_getD (F.pgT _) F.hdT F.at_npassedout) (sim_CallB F.gl_len rfl (by kernel_rfl) (by kernel_rfl) rfl (sim_arg (sim_Name (x := "result") (by kernel_rfl)) sim_arg_nil rfl) sim_len) sim_iadd (sim_setD F.stT F.poT (taker_none F.at_npassedout) F.hdT))
  (sim_one (sim_Return (sim_Name (x := "result") (by kernel_rfl))))))))))
theorem S_get_ready {ad : Ad} (F : FactsL TS ad) (hh : A.handled = none) : SimF prog w TS (n + 1) A (.ref ad.ready) (P_get_ready ad) := by
  obtain ⟨o, fd, H, hb⟩ := F.fn_get_ready
  exact sim_def H hh (bind_plain hb) (names_okP (by kernel_rfl)) (fun A' L q cd hh' => Q_get_ready F hh')
def B_is_active (ad : Ad) : PTx LF :=
  (pseq
  (pif (pbind (pbind (pget "self") (pgetD ad.CT "_ready_nodes")) fun a => pbind (pret .none) fun b => pisNone a b) pfail (pret .next))
  (pbind (pbind (pbind (pbind (pget "self") (pgetD ad.CT "_nfinished")) fun a => pbind (pbind (pget "self") (pgetD ad.CT "_npassedout")) fun b => pbind (plt a b) fun z => pret (.bool z)) fun a => pbind (ptruth a) fun b => fun Q E σ => if b = true then Q a σ else (pbind (pbind (pbind (pget "self") (pgetD ad.CT "_ready_nodes")) fun a => pbind (pret []) fun as => pret (a :: as)) pbool) Q E σ) fun v => pret (.ret v)))
abbrev P_is_active (ad : Ad) : List LV → PTx LV := pdef (bndP ["self"]) (B_is_active ad)
theorem Q_is_active {ad : Ad} (F : FactsL TS ad) (hh : A.handled = none) {L f : Addr} {q : Str} {cd : Value} : Sim prog w TS (n + 0) A (fenv (fnScope (inAt (fnAt PySem.Challenge.pw_nq0219_01 6) 5)) L q f cd) (execs (fnBody (inAt (fnAt PySem.Challenge.pw_nq0219_01 6) 5)) (fenv (fnScope (inAt (fnAt PySem.Challenge.pw_nq0219_01 6) 5)) L q f cd)) FlRel (B_is_active ad) :=
  (sim_cons
  (sim_If (sim_test_Compare (sim_Attr (sim_Name (x := "self") (by kernel_rfl)) (sim_getD (F.pgT _) F.hdT F.at_ready_nodes) (by with_unfolding_all rfl)) sim_none sim_isNone rfl) (sim_one sim_fail) sim_nil)
  (sim_one (sim_Return (sim_Or (sim_Compare (sim_Attr (sim_Name (x := "self") (by kernel_rfl)) (sim_getD (F.pgT _) F.hdT F.at_nfinished) (by with_unfolding_all rfl)) (sim_Attr (sim_Name (x := "self") (by kernel_rfl)) (sim_getD (F.pgT _) F.hdT F.at_npassedout) (by with_unfolding_all rfl)) sim_lt rfl) sim_truth (sim_CallB F.gl_bool rfl (by kernel_rfl) (by kernel_rfl) rfl (sim_arg (sim_Attr (sim_Name (x := "self") (by kernel_rfl)) (sim_getD (F.pgT _) F.hdT F.at_ready_nodes) (by with_unfolding_all rfl)) sim_arg_nil rfl) sim_boolC)))))
theorem S_is_active {ad : Ad} (F : FactsL TS ad) (hh : A.handled = none) : SimF prog w TS (n + 1) A (.ref ad.active) (P_is_active ad) := by
  obtain ⟨o, fd, H, hb⟩ := F.fn_is_active
  exact sim_def H hh (bind_plain hb) (names_okP (by kernel_rfl)) (fun A' L q cd hh' => Q_is_active F hh')
def B_done (ad : Ad) : PTx LF :=
  (pseq
  (pif (pbind (pbind (pget "self") (pgetD ad.CT "_ready_nodes")) fun a => pbind (pret .none) fun b => pisNone a b) pfail (pret .next))
  (pseq
  (pbind (pbind (pget "self") (pgetD ad.CT "_node2info")) fun v => pbind (pset "n2i" v) fun _ => pret .next)
  (pfor (pbind (pget "nodes") ptitems) (pset "node") (pseq
  (pif (pbind (pbind (pbind (pget "n2i") fun a => pbind (pisdict a) fun _ => pbind (pbind (pget "node") fun a => pbind (pret []) fun as => pret (a :: as)) fun as => pdget1 a as) fun v => pbind ((pset "nodeinfo") v) fun _ => pret v) fun a => pbind (pret .none) fun b => pisNone a b) pfail (pret .next))
  (pseq
  (pbind (pbind (pget "nodeinfo") (pgetS ad.CN 1)) fun v => pbind (pset "stat" v) fun _ => pret .next)
  (pseq
  (pif (pbind (pget "stat") fun a => pbind (pret (.int (-1))) fun b => pne a b) (pif (pbind (pget "stat") fun a => pbind (pret (.int 0)) fun b => pge a b) pfail (pif (pbind (pget "stat") fun a => pbind (pret (.int (-2))) fun b => peq a b) pfail pfail)) (pret .next))
  (pseq
  (pbind (pret (.int (-2))) fun v => pbind (pget "nodeinfo") fun a9 => pbind (psetS ad.CN 1 a9 v) fun _ => pret .next)
  (pseq
  (pfor (pbind (pbind (pget "nodeinfo") (pgetS ad.CN 2)) pitems) (pset "successor") (pseq
  (pbind (pbind (pget "n2i") fun a => pbind (pget "successor") fun b => pdget a b) fun v => pbind (pset "successor_info" v) fun _ => pret .next)
  (pseq
  (pbind (pget "successor_info") fun a9 => pbind (pgetS ad.CN 1 a9) fun u => pbind (pret (.int 1)) fun v => pbind (psub u v) fun z => pbind (psetS ad.CN 1 a9 z) fun _ => pret .next)
  (pif (pbind (pbind (pget "successor_info") (pgetS ad.CN 1)) fun a => pbind (pret (.int 0)) fun b => peq a b) (pbind (pbind (pbind (pget "self") (pgetD ad.CT "_ready_nodes")) fun a => pbind (pislist a) fun _ => pbind (pbind (pget "successor") fun a => pbind (pret []) fun as => pret (a :: as)) fun as => plappend a as) fun _ => pret .next) (pret .next)))) (pret .next))
  (pbind (pget "self") fun a9 => pbind (pgetD ad.CT "_nfinished" a9) fun u => pbind (pret (.int 1)) fun v => pbind (padd u v) fun z => pbind (psetD ad.CT "_nfinished" a9 z) fun _ => pret .next)))))) (pret .next))))
abbrev P_done (ad : Ad) : List LV → PTx LV := pdef (bndV ["self"] "nodes") (B_done ad)
theorem Q_done {ad : Ad} (F : FactsL TS ad) (hh : A.handled = none) {L f : Addr} {q : Str} {cd : Value} : Sim prog w TS (n + 0) A (fenv (fnScope (inAt (fnAt PySem.Challenge.pw_nq0219_01 6) 7)) L q f cd) (execs (fnBody (inAt (fnAt PySem.Challenge.pw_nq0219_01 6) 7)) (fenv (fnScope (inAt (fnAt PySem.Challenge.pw_nq0219_01 6) 7)) L q f cd)) FlRel (B_done ad) :=
  (sim_cons
  (sim_If (sim_test_Compare (sim_Attr (sim_Name (x := "self") (by kernel_rfl)) (sim_getD (F.pgT _) F.hdT F.at_ready_nodes) (by with_unfolding_all rfl)) sim_none sim_isNone rfl) (sim_one sim_fail) sim_nil)
  (sim_cons
  (sim_Assign_Name (x := "n2i") (.inl (by kernel_rfl)) (sim_Attr (sim_Name (x := "self") (by kernel_rfl)) (sim_getD (F.pgT _) F.hdT F.at_node2info) (by with_unfolding_all rfl)) (by kernel_rfl))
  (sim_one (sim_For rfl (it_tuple hh (sim_Name (x := "nodes") (by kernel_rfl))) (sim_tName (x := "node") (.inl (by kernel_rfl))) (sim_cons
  (sim_If (sim_test_Compare (sim_NamedExpr (sim_CallM PySem.F.plainAttrs_dict PySem.F.slot_dict_get PySem.F.type_dict_get rfl rfl rfl rfl (sim_Name (x := "n2i") (by kernel_rfl)) isOf_dict (sim_arg (sim_Name (x := "node") (by kernel_rfl)) sim_arg_nil rfl) sim_get1) (sim_tName (x := "nodeinfo") (.inl (by kernel_rfl)))) sim_none sim_isNone rfl) (sim_one sim_fail) sim_nil)
  (sim_cons
  (sim_Assign_Name (x := "stat") (.inl (by kernel_rfl)) (sim_Attr (sim_Name (x := "nodeinfo") (by kernel_rfl)) (sim_getS (F.pgN _) F.clN F.snpredecessors.f F.snpredecessors.g F.snpredecessors.t F.snpredecessors.s) (by with_unfolding_all rfl)) (by kernel_rfl))
  (sim_cons
  (sim_If (sim_test_Compare (sim_Name (x := "stat") (by kernel_rfl)) (sim_globInt F.gl_NODE_OUT (by kernel_rfl) (by kernel_rfl)) sim_ne rfl) (sim_one (sim_If (sim_test_Compare (sim_Name (x := "stat") (by kernel_rfl)) sim_int sim_ge rfl) (sim_one sim_fail) (sim_one (sim_If (sim_test_Compare (sim_Name (x := "stat") (by kernel_rfl)) (sim_globInt F.gl_NODE_DONE (by kernel_rfl) (by kernel_rfl)) sim_eq rfl) (sim_one sim_fail) (sim_one sim_fail))))) sim_nil)
  (sim_cons
  (sim_AssignAttr (sim_globInt F.gl_NODE_DONE (by kernel_rfl) (by kernel_rfl)) (sim_Name (x := "nodeinfo") (by kernel_rfl)) (sim_setS F.stN F.poN F.snpredecessors.k F.snpredecessors.y F.snpredecessors.s (by decide)) rfl)
  (sim_cons
  (sim_For rfl (it_list hh (sim_Attr (sim_Name (x := "nodeinfo") (by kernel_rfl)) (sim_getS (F.pgN _) F.clN F.ssuccessors.f F.ssuccessors.g F.ssuccessors.t F.ssuccessors.s) (by with_unfolding_all rfl))) (sim_tName (x := "successor") (.inl (by kernel_rfl))) (sim_cons
  (sim_Assign_Name (x := "successor_info") (.inl (by kernel_rfl)) (sim_Subscript (sim_Name (x := "n2i") (by kernel_rfl)) (sim_Name (x := "successor") (by kernel_rfl)) (tail_pdget (fun _ _ => rfl))) (by kernel_rfl))
  (sim_cons
  (sim_AugAttr (sim_Name (x := "successor_info") (by kernel_rfl)) (sim_getS (F.pgN _) F.clN F.snpredecessors.f F.snpredecessors.g F.snpredecessors.t F.snpredecessors.s) sim_int sim_isub (sim_setS F.stN F.poN F.snpredecessors.k F.snpredecessors.y F.snpredecessors.s (by decide)))
  (sim_one (sim_If (sim_test_Compare (sim_Attr (sim_Name (x := "successor_info") (by kernel_rfl)) (sim_getS (F.pgN _) F.clN F.snpredecessors.f F.snpredecessors.g F.snpredecessors.t F.snpredecessors.s) (by with_unfolding_all rfl)) sim_int sim_eq rfl) (sim_one (sim_Expr (sim_CallM PySem.F.plainAttrs_list PySem.F.slot_list_append PySem.F.type_list_append rfl rfl rfl rfl (sim_Attr (sim_Name (x := "self") (by kernel_rfl)) (sim_getD (F.pgT _) F.hdT F.at_ready_nodes) (by with_unfolding_all rfl)) isOf_list (sim_arg (sim_Name (x := "successor") (by kernel_rfl)) sim_arg_nil rfl) sim_append) rfl rfl)) sim_nil)))) sim_nil (fun _ => rfl))
  (sim_one (sim_AugAttr (sim_Name (x := "self") (by kernel_rfl)) (sim_getD (F.pgT _) F.hdT F.at_nfinished) sim_int sim_iadd (sim_setD F.stT F.poT (taker_none F.at_nfinished) F.hdT)))))))) sim_nil (fun _ => rfl)))))
theorem S_done {ad : Ad} (F : FactsL TS ad) (hh : A.handled = none) : SimF prog w TS (n + 1) A (.ref ad.done) (P_done ad) := by
  obtain ⟨o, fd, H, hp, hd⟩ := F.fn_done
  exact sim_def H hh (bind_vararg fun pre rest hl => va_done hp hd pre rest hl) (names_okV (by kernel_rfl)) (fun A' L q cd hh' => Q_done F hh')
def B_find_cycle (ad : Ad) : PTx LF :=
  (pseq
  (pbind (pbind (pget "self") (pgetD ad.CT "_node2info")) fun v => pbind (pset "n2i" v) fun _ => pret .next)
  (pseq
  (pbind (pbind (pret []) plist) fun v => pbind (pset "stack" v) fun _ => pret .next)
  (pseq
  (pbind (pbind (pret []) plist) fun v => pbind (pset "itstack" v) fun _ => pret .next)
  (pseq
  (pbind (pbind (pret []) pset0) fun v => pbind (pset "seen" v) fun _ => pret .next)
  (pseq
  (pbind pdict0 fun v => pbind (pset "node2stacki" v) fun _ => pret .next)
  (pseq
  (pfor (pbind (pget "n2i") pkeys) (pset "node") (pseq
  (pif (pbind (pget "node") fun a => pbind (pget "seen") fun b => psin a b) (pret .cont) (pret .next))
  (pwhile (pbind (pret (.bool true)) ptruth) (pseq
  (pif (pbind (pget "node") fun a => pbind (pget "seen") fun b => psin a b) (pif (pbind (pget "node") fun a => pbind (pget "node2stacki") fun b => pdin a b) pfail (pret .next)) (pseq
  (pbind (pbind (pget "seen") fun a => pbind (pisset a) fun _ => pbind (pbind (pget "node") fun a => pbind (pret []) fun as => pret (a :: as)) fun as => psadd a as) fun _ => pret .next)
  (pseq
  (pbind (pbind (pget "itstack") fun a => pbind (pislist a) fun _ => pbind (pbind (pbind (pbind (pbind (pbind (pbind (pget "n2i") fun a => pbind (pget "node") fun b => pdget a b) (pgetS ad.CN 2)) fun a => pbind (pret []) fun as => pret (a :: as)) piter) pnextof) fun a => pbind (pret []) fun as => pret (a :: as)) fun as => plappend a as) fun _ => pret .next)
  (pseq
  (pbind (pbind (pbind (pget "stack") fun a => pbind (pret []) fun as => pret (a :: as)) plen) fun v => pbind ((fun v => pbind (pget "node2stacki") fun a => pbind (pget "node") fun b => pdset a b v) v) fun _ => pret .next)
  (pbind (pbind (pget "stack") fun a => pbind (pislist a) fun _ => pbind (pbind (pget "node") fun a => pbind (pret []) fun as => pret (a :: as)) fun as => plappend a as) fun _ => pret .next)))))
  (pwhile (pbind (pget "stack") ptruth) (fun Q E σ => (pseq
  (pbind (pbind (pbind (pget "itstack") fun a => pbind (pbind (pret (.int 1)) pneg) fun b => pllast a b) pnextc) fun v => pbind (pset "node" v) fun _ => pret .next)
  (pret .brk)) Q (fun x σ' => x.name = "StopIteration" ∧ (pseq
  (pbind (pget "node2stacki") fun a => pbind (pbind (pget "stack") fun a => pbind (pislist a) fun _ => pbind (pret []) fun as => plpop a as) fun b => pbind (pddel a b) fun _ => pret .next)
  (pbind (pbind (pget "itstack") fun a => pbind (pislist a) fun _ => pbind (pret []) fun as => plpop a as) fun _ => pret .next)) Q noE σ') σ) (pret .brk))) (pret .next))) (pret .next))
  (pbind (pret .none) fun v => pret (.ret v))))))))
abbrev P_find_cycle (ad : Ad) : List LV → PTx LV := pdef (bndP ["self"]) (B_find_cycle ad)
theorem Q_find_cycle {ad : Ad} (F : FactsL TS ad) (hh : A.handled = none) {L f : Addr} {q : Str} {cd : Value} : Sim prog w TS (n + 0) A (fenv (fnScope (inAt (fnAt PySem.Challenge.pw_nq0219_01 6) 8)) L q f cd) (execs (fnBody (inAt (fnAt PySem.Challenge.pw_nq0219_01 6) 8)) (fenv (fnScope (inAt (fnAt PySem.Challenge.pw_nq0219_01 6) 8)) L q f cd)) FlRel (B_find_cycle ad) :=
  (sim_cons
  (sim_Assign_Name (x := "n2i") (.inl (by kernel_rfl)) (sim_Attr (sim_Name (x := "self") (by kernel_rfl)) (sim_getD (F.pgT _) F.hdT F.at_node2info) (by with_unfolding_all rfl)) (by kernel_rfl))
  (sim_cons
  (sim_Assign_Name (x := "stack") (.inl (by kernel_rfl)) (sim_List sim_arg_nil) (by kernel_rfl))
  (sim_cons
  (sim_Assign_Name (x := "itstack") (.inl (by kernel_rfl)) (sim_List sim_arg_nil) (by kernel_rfl))
  (sim_cons
  (sim_Assign_Name (x := "seen") (.inl (by kernel_rfl)) (sim_CallB F.gl_set rfl (by kernel_rfl) (by kernel_rfl) rfl sim_arg_nil sim_set0) (by kernel_rfl))
  (sim_cons
  (sim_Assign_Name (x := "node2stacki") (.inl (by kernel_rfl)) sim_Dict0 (by kernel_rfl))
  (sim_cons
  (sim_For rfl (it_keys hh (sim_Name (x := "n2i") (by kernel_rfl))) (sim_tName (x := "node") (.inl (by kernel_rfl))) (sim_cons
  (sim_If (sim_test_Compare (sim_Name (x := "node") (by kernel_rfl)) (sim_Name (x := "seen") (by kernel_rfl)) sim_psin rfl) (sim_one sim_Continue) sim_nil)
  (sim_one (sim_While rfl (sim_test_val sim_bool sim_truth rfl) (sim_cons
  (sim_If (sim_test_Compare (sim_Name (x := "node") (by kernel_rfl)) (sim_Name (x := "seen") (by kernel_rfl)) sim_psin rfl) (sim_one (sim_If (sim_test_Compare (sim_Name (x := "node") (by kernel_rfl)) (sim_Name (x := "node2stacki") (by kernel_rfl)) sim_pdin rfl) (sim_one sim_fail) sim_nil)) (sim_cons
  (sim_Expr (sim_CallM PySem.F.plainAttrs_set PySem.F.slot_set_add PySem.F.type_set_add rfl rfl rfl rfl (sim_Name (x := "seen") (by kernel_rfl)) isOf_set (sim_arg (sim_Name (x := "node") (by kernel_rfl)) sim_arg_nil rfl) sim_sadd) rfl rfl)
  (sim_cons
  (sim_Expr (sim_CallM PySem.F.plainAttrs_list PySem.F.slot_list_append PySem.F.type_list_append rfl rfl rfl rfl (sim_Name (x := "itstack") (by kernel_rfl)) isOf_list (sim_arg (sim_Attr (sim_CallB F.gl_iter rfl (by kernel_rfl) (by kernel_rfl) rfl (sim_arg (sim_Attr (sim_Subscript (sim_Name (x := "n2i") (by kernel_rfl)) (sim_Name (x := "node") (by kernel_rfl)) (tail_pdget (fun _ _ => rfl))) (sim_getS (F.pgN _) F.clN F.ssuccessors.f F.ssuccessors.g F.ssuccessors.t F.ssuccessors.s) (by with_unfolding_all rfl)) sim_arg_nil rfl) sim_iter) sim_nextof (by with_unfolding_all rfl)) sim_arg_nil rfl) sim_append) rfl rfl)
  (sim_cons
  (sim_Assign (sim_CallB F.gl_len rfl (by kernel_rfl) (by kernel_rfl) rfl (sim_arg (sim_Name (x := "stack") (by kernel_rfl)) sim_arg_nil rfl) sim_len) (sim_tSub (sim_Name (x := "node2stacki") (by kernel_rfl)) (sim_Name (x := "node") (by kernel_rfl)) sim_pdset) rfl rfl rfl)
  (sim_one (sim_Expr (sim_CallM PySem.F.plainAttrs_list PySem.F.slot_list_append PySem.F.type_list_append rfl rfl rfl rfl (sim_Name (x := "stack") (by kernel_rfl)) isOf_list (sim_arg (sim_Name (x := "node") (by kernel_rfl)) sim_arg_nil rfl) sim_append) rfl rfl))))))
  (sim_one (sim_While rfl (sim_test_val (sim_Name (x := "stack") (by kernel_rfl)) sim_truth rfl) (sim_one (sim_TryExcept rfl F.gl_StopIteration (by kernel_rfl) (by kernel_rfl) ex_StopIteration.1 ex_StopIteration.2.1 ex_StopIteration.2.2 (sim_cons
  (sim_Assign_Name (x := "node") (.inl (by kernel_rfl)) (sim_CallV hh (sim_Subscript (sim_Name (x := "itstack") (by kernel_rfl)) (sim_UnaryOp sim_int sim_neg) (tail_pllast (fun _ _ => rfl))) rfl) (by kernel_rfl))
  (sim_one sim_Break)) (fun e0 => (sim_cons
  (sim_Delete (sim_Name (x := "node2stacki") (by kernel_rfl)) (sim_CallM PySem.F.plainAttrs_list PySem.F.slot_list_pop PySem.F.type_list_pop rfl rfl rfl rfl (sim_Name (x := "stack") (by kernel_rfl)) isOf_list sim_arg_nil sim_pop) sim_pddel)
  (sim_one (sim_Expr (sim_CallM PySem.F.plainAttrs_list PySem.F.slot_list_pop PySem.F.type_list_pop rfl rfl rfl rfl (sim_Name (x := "itstack") (by kernel_rfl)) isOf_list sim_arg_nil sim_pop) rfl rfl)))))) (sim_one sim_Break)))) sim_nil))) sim_nil (fun _ => rfl))
  (sim_one (sim_Return sim_none))))))))
theorem S_find_cycle {ad : Ad} (F : FactsL TS ad) (hh : A.handled = none) : SimF prog w TS (n + 1) A (.ref ad.cyc) (P_find_cycle ad) := by
  obtain ⟨o, fd, H, hb⟩ := F.fn_find_cycle
  exact sim_def H hh (bind_plain hb) (names_okP (by kernel_rfl)) (fun A' L q cd hh' => Q_find_cycle F hh')
def B_prepare (ad : Ad) : PTx LF :=
  (pseq
  (pif (pbind (pbind (pget "self") (pgetD ad.CT "_ready_nodes")) fun a => pbind (pret .none) fun b => pisNotNone a b) pfail (pret .next))
  (pseq
  (pbind (pcomp (.list []) (pbind (pbind (pget "self") (pgetD ad.CT "_node2info")) fun a => pbind (pisdict a) fun _ => pvals a) [".0", "i"] (pset "i") (fun D => pwhen (pbind (pbind (pget "i") (pgetS ad.CN 1)) fun a => pbind (pret (.int 0)) fun b => peq a b) (pemit (pbind (pget "i") (pgetS ad.CN 0)) D))) fun v => pbind (pget "self") fun a9 => pbind (psetD ad.CT "_ready_nodes" a9 v) fun _ => pret .next)
  (pseq
  (pbind (pbind (pget "self") fun a9 => pbind (pisinst ad.CT "_find_cycle" a9) fun _ => pbind (pret []) fun as => P_find_cycle ad (a9 :: as)) fun v => pbind (pset "cycle" v) fun _ => pret .next)
  (pif (pbind (pget "cycle") ptruth) pfail (pret .next)))))
abbrev P_prepare (ad : Ad) : List LV → PTx LV := pdef (bndP ["self"]) (B_prepare ad)
theorem Q_prepare {ad : Ad} (F : FactsL TS ad) (hh : A.handled = none) {L f : Addr} {q : Str} {cd : Value} : Sim prog w TS (n + 1) A (fenv (fnScope (inAt (fnAt PySem.Challenge.pw_nq0219_01 6) 3)) L q f cd) (execs (fnBody (inAt (fnAt PySem.Challenge.pw_nq0219_01 6) 3)) (fenv (fnScope (inAt (fnAt PySem.Challenge.pw_nq0219_01 6) 3)) L q f cd)) FlRel (B_prepare ad) :=
  (sim_cons
  (sim_If (sim_test_Compare (sim_Attr (sim_Name (x := "self") (by kernel_rfl)) (sim_getD (F.pgT _) F.hdT F.at_ready_nodes) (by with_unfolding_all rfl)) sim_none sim_isNotNone rfl) (sim_one sim_fail) sim_nil)
  (sim_cons
  (sim_AssignAttr (sim_ListComp (by kernel_rfl) (fun _ => rfl) (it_vals hh rfl rfl (sim_Attr (sim_Name (x := "self") (by kernel_rfl)) (sim_getD (F.pgT _) F.hdT F.at_node2info) (by with_unfolding_all rfl))) ⟨fun C1 => (sim_tName (x := "i") (.inl (by kernel_rfl))), fun C1 => (sim_tests_one (sim_test_Compare (sim_Attr (sim_Name (x := "i") (by kernel_rfl)) (sim_getS (F.pgN _) F.clN F.snpredecessors.f F.snpredecessors.g F.snpredecessors.t F.snpredecessors.s) (by with_unfolding_all rfl)) sim_int sim_eq rfl)), fun C1 => (sim_Attr (sim_Name (x := "i") (by kernel_rfl)) (sim_getS (F.pgN _) F.clN F.snode.f F.snode.g F.snode.t F.snode.s) (by with_unfolding_all rfl))⟩) (sim_Name (x := "self") (by kernel_rfl)) (sim_setD F.stT F.poT (taker_none F.at_ready_nodes) F.hdT) rfl)
  (sim_cons
  (sim_Assign_Name (x := "cycle") (.inl (by kernel_rfl)) (sim_CallMeth (F.pgT _) F.m_find_cycle.f F.m_find_cycle.n F.m_find_cycle.k rfl rfl rfl (sim_Name (x := "self") (by kernel_rfl)) sim_arg_nil (S_find_cycle F hh)) (by kernel_rfl))
  (sim_one (sim_If (sim_test_val (sim_Name (x := "cycle") (by kernel_rfl)) sim_truth rfl) (sim_one sim_fail) sim_nil)))))
theorem S_prepare {ad : Ad} (F : FactsL TS ad) (hh : A.handled = none) : SimF prog w TS (n + 2) A (.ref ad.prep) (P_prepare ad) := by
  obtain ⟨o, fd, H, hb⟩ := F.fn_prepare
  exact sim_def H hh (bind_plain hb) (names_okP (by kernel_rfl)) (fun A' L q cd hh' => Q_prepare F hh')
def B_law_joined (ad : Ad) : PTx LF :=
  (pseq
  (pbind (pbind (pret []) plist) fun v => pbind (pset "whole" v) fun _ => pret .next)
  (pseq
  (pfor (pbind (pget "rows") pitems) (pset "row") (pbind (pbind (pbind (pbind (pget "whole") fun a => pbind (pbind (pbind (pbind (pget "whole") fun a => pbind (pbind (pget "row") fun a => pbind (pret []) fun as => pret (a :: as)) fun as => pret (a :: as)) (P_sorted_list_difference ad)) fun a => pbind (pret (.int 1)) fun b => ptget a b) fun b => pcat a b) fun a => pbind (pret []) fun as => pret (a :: as)) psorted) fun v => pbind (pset "whole" v) fun _ => pret .next) (pret .next))
  (pbind (pget "whole") fun v => pret (.ret v))))
abbrev P_law_joined (ad : Ad) : List LV → PTx LV := pdef (bndP ["rows"]) (B_law_joined ad)
theorem Q_law_joined {ad : Ad} (F : FactsL TS ad) (hh : A.handled = none) {L f : Addr} {q : Str} {cd : Value} : Sim prog w TS (n + 1) A (fenv (fnScope (fnAt PySem.Challenge.pw_nq0219_01 16)) L q f cd) (execs (fnBody (fnAt PySem.Challenge.pw_nq0219_01 16)) (fenv (fnScope (fnAt PySem.Challenge.pw_nq0219_01 16)) L q f cd)) FlRel (B_law_joined ad) :=
  (sim_cons
  (sim_Assign_Name (x := "whole") (.inl (by kernel_rfl)) (sim_List sim_arg_nil) (by kernel_rfl))
  (sim_cons
  (sim_For rfl (it_list hh (sim_Name (x := "rows") (by kernel_rfl))) (sim_tName (x := "row") (.inl (by kernel_rfl))) (sim_one (sim_Assign_Name (x := "whole") (.inl (by kernel_rfl)) (sim_CallB F.gl_sorted rfl (by kernel_rfl) (by kernel_rfl) rfl (sim_arg (sim_BinOp (sim_Name (x := "whole") (by kernel_rfl)) (sim_Subscript (sim_CallF F.gl_sorted_list_difference F.kp_sorted_list_difference (by kernel_rfl) (by kernel_rfl) rfl rfl (sim_arg (sim_Name (x := "whole") (by kernel_rfl)) (sim_arg (sim_Name (x := "row") (by kernel_rfl)) sim_arg_nil rfl) rfl) (S_sorted_list_difference F hh)) sim_int (tail_ptget (fun _ _ => rfl))) sim_cat) sim_arg_nil rfl) sim_sorted) (by kernel_rfl))) sim_nil (fun _ => rfl))
  (sim_one (sim_Return (sim_Name (x := "whole") (by kernel_rfl))))))
theorem S_law_joined {ad : Ad} (F : FactsL TS ad) (hh : A.handled = none) : SimF prog w TS (n + 2) A (.ref ad.joined) (P_law_joined ad) := by
  obtain ⟨o, fd, H, hb⟩ := F.fn_law_joined
  exact sim_def H hh (bind_plain hb) (names_okP (by kernel_rfl)) (fun A' L q cd hh' => Q_law_joined F hh')
def B_law_read (ad : Ad) : PTx LF :=
  (pseq
  (pbind (pbind (pbind (pbind (pbind (pget "ahead") fun a => pbind (pret []) fun as => pret (a :: as)) (P_T ad)) fun a => pbind (pbind pdict0 fun a => pbind (pbind pdict0 fun a => pbind (pbind (pret (.int 0)) fun a => pbind (pret []) fun as => pret (a :: as)) fun as => pret (a :: as)) fun as => pret (a :: as)) fun as => pret (a :: as)) ptuple) fun v => pbind ((ptupT [(pset "plan"), (pset "ranks"), (pset "under"), (pset "turn")]) v) fun _ => pret .next)
  (pseq
  (pbind (pbind (pget "plan") fun a9 => pbind (pisinst ad.CT "prepare" a9) fun _ => pbind (pret []) fun as => P_prepare ad (a9 :: as)) fun _ => pret .next)
  (pseq
  (pwhile (pbind (pbind (pget "plan") fun a9 => pbind (pisinst ad.CT "is_active" a9) fun _ => pbind (pret []) fun as => P_is_active ad (a9 :: as)) ptruth) (pseq
  (pbind (pbind (pget "plan") fun a9 => pbind (pisinst ad.CT "get_ready" a9) fun _ => pbind (pret []) fun as => P_get_ready ad (a9 :: as)) fun v => pbind (pset "group" v) fun _ => pret .next)
  (pseq
  (pfor (pbind (pget "group") ptitems) (pset "name") (pseq
  (pbind (pget "turn") fun v => pbind ((fun v => pbind (pget "ranks") fun a => pbind (pget "name") fun b => pdset a b v) v) fun _ => pret .next)
  (pbind (pbind (pbind (pbind (pbind (pbind (pcomp (.list []) (pbind (pbind (pget "ahead") fun a => pbind (pget "name") fun b => pdget a b) pitems) [".0", "other"] (pset "other") (fun D => pwhen (pret true) (pemit (pbind (pget "under") fun a => pbind (pget "other") fun b => pdget a b) D))) fun a => pbind (pret []) fun as => pret (a :: as)) (P_law_joined ad)) fun a => pbind (pbind (pbind (pget "name") fun a => pbind (pret []) fun as => pret (a :: as)) plist) fun b => pcat a b) fun a => pbind (pret []) fun as => pret (a :: as)) psorted) fun v => pbind ((fun v => pbind (pget "under") fun a => pbind (pget "name") fun b => pdset a b v) v) fun _ => pret .next)) (pret .next))
  (pseq
  (pbind (pbind (pget "plan") fun a9 => pbind (pisinst ad.CT "done" a9) fun _ => pbind (pget "group") fun v => pbind (pstar v) fun as => P_done ad (a9 :: as)) fun _ => pret .next)
  (pbind (pget "turn") fun a => pbind (pret (.int 1)) fun b => pbind (padd a b) fun v => pbind (pset "turn" v) fun _ => pret .next)))) (pret .next))
  (pbind (pbind (pbind (pget "ranks") fun a => pbind (pbind (pget "under") fun a => pbind (pret []) fun as => pret (a :: as)) fun as => pret (a :: as)) ptuple) fun v => pret (.ret v)))))
abbrev P_law_read (ad : Ad) : List LV → PTx LV := pdef (bndP ["ahead"]) (B_law_read ad)
theorem Q_law_read {ad : Ad} (F : FactsL TS ad) (hh : A.handled = none) {L f : Addr} {q : Str} {cd : Value} : Sim prog w TS (n + 6) A (fenv (fnScope (fnAt PySem.Challenge.pw_nq0219_01 17)) L q f cd) (execs (fnBody (fnAt PySem.Challenge.pw_nq0219_01 17)) (fenv (fnScope (fnAt PySem.Challenge.pw_nq0219_01 17)) L q f cd)) FlRel (B_law_read ad) :=
  (sim_cons
  (sim_Assign (sim_Tuple (sim_arg (sim_CallF F.gl_CT F.kp_CT (by kernel_rfl) (by kernel_rfl) rfl rfl (sim_arg (sim_Name (x := "ahead") (by kernel_rfl)) sim_arg_nil rfl) (up_T F hh)) (sim_arg sim_Dict0 (sim_arg sim_Dict0 (sim_arg sim_int sim_arg_nil rfl) rfl) rfl) rfl)) (sim_tTuple hh (.cons (sim_tName (x := "plan") (.inl (by kernel_rfl))) (.cons (sim_tName (x := "ranks") (.inl (by kernel_rfl))) (.cons (sim_tName (x := "under") (storeC (by kernel_rfl) ⟨_, rfl, by repeat (first | exact Nat.lt_succ_self _ | apply Nat.lt_succ_of_lt)⟩)) (.cons (sim_tName (x := "turn") (.inl (by kernel_rfl))) .nil))))) rfl rfl rfl)
  (sim_cons
  (sim_Expr (sim_CallMeth (F.pgT _) F.m_prepare.f F.m_prepare.n F.m_prepare.k rfl rfl rfl (sim_Name (x := "plan") (by kernel_rfl)) sim_arg_nil (S_prepare F hh)) rfl rfl)
  (sim_cons
  (sim_While rfl (sim_test_val (sim_CallMeth (F.pgT _) F.m_is_active.f F.m_is_active.n F.m_is_active.k rfl rfl rfl (sim_Name (x := "plan") (by kernel_rfl)) sim_arg_nil (S_is_active F hh)) sim_truth rfl) (sim_cons
  (sim_Assign_Name (x := "group") (.inl (by kernel_rfl)) (sim_CallMeth (F.pgT _) F.m_get_ready.f F.m_get_ready.n F.m_get_ready.k rfl rfl rfl (sim_Name (x := "plan") (by kernel_rfl)) sim_arg_nil (S_get_ready F hh)) (by kernel_rfl))
  (sim_cons
  (sim_For rfl (it_tuple hh (sim_Name (x := "group") (by kernel_rfl))) (sim_tName (x := "name") (.inl (by kernel_rfl))) (sim_cons
  (sim_Assign (sim_Name (x := "turn") (by kernel_rfl)) (sim_tSub (sim_Name (x := "ranks") (by kernel_rfl)) (sim_Name (x := "name") (by kernel_rfl)) sim_pdset) rfl rfl rfl)
  (sim_one (sim_Assign (sim_CallB F.gl_sorted rfl (by kernel_rfl) (by kernel_rfl) rfl (sim_arg (sim_BinOp (sim_CallF F.gl_law_joined F.kp_law_joined (by kernel_rfl) (by kernel_rfl) rfl rfl (sim_arg (sim_ListComp (by kernel_rfl) (fun _ => rfl) (it_list hh (sim_Subscript (sim_Name (x := "ahead") (by kernel_rfl)) (sim_Name (x := "name") (by kernel_rfl)) (tail_pdget (fun _ _ => rfl)))) ⟨fun C1 => (sim_tName (x := "other") (.inl (by kernel_rfl))), fun C1 => sim_tests_nil, fun C1 => (sim_Subscript (sim_Name (x := "under") (by kernel_rfl)) (sim_Name (x := "other") (by kernel_rfl)) (tail_pdget (fun _ _ => rfl)))⟩) sim_arg_nil rfl) (S_law_joined F hh)) (sim_List (sim_arg (sim_Name (x := "name") (by kernel_rfl)) sim_arg_nil rfl)) sim_cat) sim_arg_nil rfl) sim_sorted) (sim_tSub (sim_Name (x := "under") (by kernel_rfl)) (sim_Name (x := "name") (by kernel_rfl)) sim_pdset) rfl rfl rfl))) sim_nil (fun _ => rfl))
  (sim_cons
  (sim_Expr (sim_CallMethL (F.pgT _) F.hdT F.m_done.f F.m_done.g F.m_done.t F.m_done.y F.m_done.i (by decide +kernel) rfl rfl rfl (sim_Name (x := "plan") (by kernel_rfl)) (sim_Name (x := "group") (by kernel_rfl)) (S_done F hh)) rfl rfl)
  (sim_one (sim_AugAssign_Name (x := "turn") (.inl (by kernel_rfl)) (by kernel_rfl) sim_int sim_iadd))))) sim_nil)
  (sim_one (sim_Return (sim_Tuple (sim_arg (sim_Name (x := "ranks") (by kernel_rfl)) (sim_arg (sim_Name (x := "under") (by kernel_rfl)) sim_arg_nil rfl) rfl)))))))
theorem S_law_read {ad : Ad} (F : FactsL TS ad) (hh : A.handled = none) : SimF prog w TS (n + 7) A (.ref ad.read) (P_law_read ad) := by
  obtain ⟨o, fd, H, hb⟩ := F.fn_law_read
  exact sim_def H hh (bind_plain hb) (names_okP (by kernel_rfl)) (fun A' L q cd hh' => Q_law_read F hh')
def B_law_following (ad : Ad) : PTx LF :=
  (pseq
  (pbind (pbind (pbind (pget "ahead") fun a => pbind (pret []) fun as => pret (a :: as)) (P_T ad)) fun v => pbind (pset "plan" v) fun _ => pret .next)
  (pseq
  (pbind (pbind (pget "plan") fun a9 => pbind (pisinst ad.CT "prepare" a9) fun _ => pbind (pret []) fun as => P_prepare ad (a9 :: as)) fun _ => pret .next)
  (pseq
  (pbind (pcomp (.list []) (pbind (pget "chosen") pitems) [".0", "name"] (pset "name") (fun D => pwhen (pret true) (pemit (pbind (pbind (pbind (pget "ranks") fun a => pbind (pget "name") fun b => pdget a b) fun a => pbind (pbind (pget "name") fun a => pbind (pret []) fun as => pret (a :: as)) fun as => pret (a :: as)) ptuple) D))) fun v => pbind (pset "heap" v) fun _ => pret .next)
  (pseq
  (pbind (pbind (pbind (pget "heap") fun a => pbind (pret []) fun as => pret (a :: as)) (P_heapify ad)) fun _ => pret .next)
  (pseq
  (pbind (pbind (pbind (pbind (pget "plan") fun a9 => pbind (pisinst ad.CT "get_ready" a9) fun _ => pbind (pret []) fun as => P_get_ready ad (a9 :: as)) fun a => pbind (pret []) fun as => pret (a :: as)) plistof) fun v => pbind (pset "given" v) fun _ => pret .next)
  (pseq
  (pwhile (pbind (pget "heap") fun a => pbind (pbind (pret []) plist) fun b => pnot pleq0 a b) (pseq
  (pbind (pbind (pget "plan") fun a9 => pbind (pisinst ad.CT "done" a9) fun _ => pbind (pbind (pbind (pbind (pbind (pget "heap") fun a => pbind (pret []) fun as => pret (a :: as)) (P_heappop ad)) fun a => pbind (pret (.int 1)) fun b => ptget a b) fun a => pbind (pret []) fun as => pret (a :: as)) fun as => P_done ad (a9 :: as)) fun _ => pret .next)
  (pbind (pbind (pget "given") fun a => pbind (pislist a) fun _ => pbind (pbind (pbind (pget "plan") fun a9 => pbind (pisinst ad.CT "get_ready" a9) fun _ => pbind (pret []) fun as => P_get_ready ad (a9 :: as)) fun a => pbind (pret []) fun as => pret (a :: as)) fun as => plextend a as) fun _ => pret .next)) (pret .next))
  (pseq
  (pbind (pbind (pbind (pbind (pbind (pbind (pget "given") fun a => pbind (pret []) fun as => pret (a :: as)) psorted) fun a => pbind (pbind (pget "chosen") fun a => pbind (pret []) fun as => pret (a :: as)) fun as => pret (a :: as)) (P_sorted_list_difference ad)) fun a => pbind (pret (.int 0)) fun b => ptget a b) fun v => pbind (pset "waiting" v) fun _ => pret .next)
  (pbind (pbind (pbind (pcomp (.list []) (pbind (pget "waiting") pitems) [".0", "name"] (pset "name") (fun D => pwhen (pret true) (pemit (pbind (pget "under") fun a => pbind (pget "name") fun b => pdget a b) D))) fun a => pbind (pret []) fun as => pret (a :: as)) (P_law_joined ad)) fun v => pret (.ret v)))))))))
abbrev P_law_following (ad : Ad) : List LV → PTx LV := pdef (bndP ["ahead", "ranks", "under", "chosen"]) (B_law_following ad)
theorem Q_law_following {ad : Ad} (F : FactsL TS ad) (hh : A.handled = none) {L f : Addr} {q : Str} {cd : Value} : Sim prog w TS (n + 6) A (fenv (fnScope (fnAt PySem.Challenge.pw_nq0219_01 18)) L q f cd) (execs (fnBody (fnAt PySem.Challenge.pw_nq0219_01 18)) (fenv (fnScope (fnAt PySem.Challenge.pw_nq0219_01 18)) L q f cd)) FlRel (B_law_following ad) :=
  (sim_cons
  (sim_Assign_Name (x := "plan") (.inl (by kernel_rfl)) (sim_CallF F.gl_CT F.kp_CT (by kernel_rfl) (by kernel_rfl) rfl rfl (sim_arg (sim_Name (x := "ahead") (by kernel_rfl)) sim_arg_nil rfl) (up_T F hh)) (by kernel_rfl))
  (sim_cons
  (sim_Expr (sim_CallMeth (F.pgT _) F.m_prepare.f F.m_prepare.n F.m_prepare.k rfl rfl rfl (sim_Name (x := "plan") (by kernel_rfl)) sim_arg_nil (S_prepare F hh)) rfl rfl)
  (sim_cons
  (sim_Assign_LComp (y := "heap") (.inl (by kernel_rfl)) (by kernel_rfl) (by kernel_rfl) (fun _ => rfl) (it_list hh (sim_Name (x := "chosen") (by kernel_rfl))) ⟨fun C1 => (sim_tName (x := "name") (.inl (by kernel_rfl))), fun C1 => sim_tests_nil, fun C1 => (sim_Tuple (sim_arg (sim_Subscript (sim_Name (x := "ranks") (by kernel_rfl)) (sim_Name (x := "name") (by kernel_rfl)) (tail_pdget (fun _ _ => rfl))) (sim_arg (sim_Name (x := "name") (by kernel_rfl)) sim_arg_nil rfl) rfl))⟩)
  (sim_cons
  (sim_Expr (sim_CallF F.gl_heapify F.kp_heapify (by kernel_rfl) (by kernel_rfl) rfl rfl (sim_arg (sim_Name (x := "heap") (by kernel_rfl)) sim_arg_nil rfl) (S_heapify F hh)) rfl rfl)
  (sim_cons
  (sim_Assign_Name (x := "given") (.inl (by kernel_rfl)) (sim_CallB F.gl_list rfl (by kernel_rfl) (by kernel_rfl) rfl (sim_arg (sim_CallMeth (F.pgT _) F.m_get_ready.f F.m_get_ready.n F.m_get_ready.k rfl rfl rfl (sim_Name (x := "plan") (by kernel_rfl)) sim_arg_nil (S_get_ready F hh)) sim_arg_nil rfl) (sim_listof hh)) (by kernel_rfl))
  (sim_cons
  (sim_While rfl (sim_test_Compare (sim_Name (x := "heap") (by kernel_rfl)) (sim_List sim_arg_nil) sim_plne0 rfl) (sim_cons
  (sim_Expr (sim_CallMeth (F.pgT _) F.m_done.f F.m_done.n F.m_done.k rfl rfl rfl (sim_Name (x := "plan") (by kernel_rfl)) (sim_arg (sim_Subscript (sim_CallF F.gl_heappop F.kp_heappop (by kernel_rfl) (by kernel_rfl) rfl rfl (sim_arg (sim_Name (x := "heap") (by kernel_rfl)) sim_arg_nil rfl) (S_heappop F hh)) sim_int (tail_ptget (fun _ _ => rfl))) sim_arg_nil rfl) (S_done F hh)) rfl rfl)
  (sim_one (sim_Expr (sim_CallM PySem.F.plainAttrs_list PySem.F.slot_list_extend PySem.F.type_list_extend rfl rfl rfl rfl (sim_Name (x := "given") (by kernel_rfl)) isOf_list (sim_arg (sim_CallMeth (F.pgT _) F.m_get_ready.f F.m_get_ready.n F.m_get_ready.k rfl rfl rfl (sim_Name (x := "plan") (by kernel_rfl)) sim_arg_nil (S_get_ready F hh)) sim_arg_nil rfl) sim_extend) rfl rfl))) sim_nil)
  (sim_cons
  (sim_Assign_Name (x := "waiting") (.inl (by kernel_rfl)) (sim_Subscript (sim_CallF F.gl_sorted_list_difference F.kp_sorted_list_difference (by kernel_rfl) (by kernel_rfl) rfl rfl (sim_arg (sim_CallB F.gl_sorted rfl (by kernel_rfl) (by kernel_rfl) rfl (sim_arg (sim_Name (x := "given") (by kernel_rfl)) sim_arg_nil rfl) sim_sorted) (sim_arg (sim_Name (x := "chosen") (by kernel_rfl)) sim_arg_nil rfl) rfl) (S_sorted_list_difference F hh)) sim_int (tail_ptget (fun _ _ => rfl))) (by kernel_rfl))
  (sim_one (sim_Return (sim_CallF F.gl_law_joined F.kp_law_joined (by kernel_rfl) (by kernel_rfl) rfl rfl (sim_arg (sim_ListComp (by kernel_rfl) (fun _ => rfl) (it_list hh (sim_Name (x := "waiting") (by kernel_rfl))) ⟨fun C2 => (sim_tName (x := "name") (.inl (by kernel_rfl))), fun C2 => sim_tests_nil, fun C2 => (sim_Subscript (sim_Name (x := "under") (by kernel_rfl)) (sim_Name (x := "name") (by kernel_rfl)) (tail_pdget (fun _ _ => rfl)))⟩) sim_arg_nil rfl) (S_law_joined F hh)))))))))))
theorem S_law_following {ad : Ad} (F : FactsL TS ad) (hh : A.handled = none) : SimF prog w TS (n + 7) A (.ref ad.following) (P_law_following ad) := by
  obtain ⟨o, fd, H, hb⟩ := F.fn_law_following
  exact sim_def H hh (bind_plain hb) (names_okP (by kernel_rfl)) (fun A' L q cd hh' => Q_law_following F hh')
def B_law_switched (ad : Ad) : PTx LF :=
  (pseq
  (pbind (pbind (pbind (pbind (pret []) plist) fun a => pbind (pbind (pbind (pbind (pget "chosen") fun a => pbind (pret []) fun as => pret (a :: as)) plistof) fun a => pbind (pret []) fun as => pret (a :: as)) fun as => pret (a :: as)) ptuple) fun v => pbind ((ptupT [(pset "heap"), (pset "held")]) v) fun _ => pret .next)
  (pseq
  (pfor (pbind (pget "ahead") pkeys) (pset "name") (pbind (pbind (pbind (pget "heap") fun a => pbind (pbind (pbind (pbind (pbind (pbind (pget "ranks") fun a => pbind (pget "name") fun b => pdget a b) pneg) fun a => pbind (pbind (pget "name") fun a => pbind (pret []) fun as => pret (a :: as)) fun as => pret (a :: as)) ptuple) fun a => pbind (pret []) fun as => pret (a :: as)) fun as => pret (a :: as)) (P_heappush ad)) fun _ => pret .next) (pret .next))
  (pseq
  (pwhile (pbind (pget "heap") fun a => pbind (pbind (pret []) plist) fun b => pnot pleq0 a b) (pseq
  (pbind (pbind (pbind (pbind (pget "heap") fun a => pbind (pret []) fun as => pret (a :: as)) (P_heappop ad)) fun a => pbind (pret (.int 1)) fun b => ptget a b) fun v => pbind (pset "name" v) fun _ => pret .next)
  (pif (pbind (pget "name") fun a => pbind (pget "held") fun b => plin a b) (pif (pbind (pcomp (.list []) (pbind (pget "held") pitems) [".0", "other"] (pset "other") (fun D => pwhen (pbind (pget "name") fun a => pbind (pbind (pget "ahead") fun a => pbind (pget "other") fun b => pdget a b) fun b => plin a b) (pemit (pget "other") D))) fun a => pbind (pbind (pret []) plist) fun b => pleq0 a b) (pbind (pbind (pget "held") fun a => pbind (pislist a) fun _ => pbind (pbind (pget "name") fun a => pbind (pret []) fun as => pret (a :: as)) fun as => plremove a as) fun _ => pret .next) (pret .next)) (pif (pbind (pcomp (.list []) (pbind (pbind (pget "ahead") fun a => pbind (pget "name") fun b => pdget a b) pitems) [".0", "other"] (pset "other") (fun D => pwhen (pbind (pget "other") fun a => pbind (pget "held") fun b => plnotin a b) (pemit (pget "other") D))) fun a => pbind (pbind (pret []) plist) fun b => pleq0 a b) (pbind (pbind (pget "held") fun a => pbind (pislist a) fun _ => pbind (pbind (pget "name") fun a => pbind (pret []) fun as => pret (a :: as)) fun as => plappend a as) fun _ => pret .next) (pret .next)))) (pret .next))
  (pbind (pbind (pbind (pget "held") fun a => pbind (pret []) fun as => pret (a :: as)) psorted) fun v => pret (.ret v)))))
abbrev P_law_switched (ad : Ad) : List LV → PTx LV := pdef (bndP ["ahead", "ranks", "chosen"]) (B_law_switched ad)
theorem Q_law_switched {ad : Ad} (F : FactsL TS ad) (hh : A.handled = none) {L f : Addr} {q : Str} {cd : Value} : Sim prog w TS (n + 3) A (fenv (fnScope (fnAt PySem.Challenge.pw_nq0219_01 19)) L q f cd) (execs (fnBody (fnAt PySem.Challenge.pw_nq0219_01 19)) (fenv (fnScope (fnAt PySem.Challenge.pw_nq0219_01 19)) L q f cd)) FlRel (B_law_switched ad) :=
  (sim_cons
  (sim_Assign (sim_Tuple (sim_arg (sim_List sim_arg_nil) (sim_arg (sim_CallB F.gl_list rfl (by kernel_rfl) (by kernel_rfl) rfl (sim_arg (sim_Name (x := "chosen") (by kernel_rfl)) sim_arg_nil rfl) (sim_listof hh)) sim_arg_nil rfl) rfl)) (sim_tTuple hh (.cons (sim_tName (x := "heap") (.inl (by kernel_rfl))) (.cons (sim_tName (x := "held") (storeC (by kernel_rfl) ⟨_, rfl, by repeat (first | exact Nat.lt_succ_self _ | apply Nat.lt_succ_of_lt)⟩)) .nil))) rfl rfl rfl)
  (sim_cons
  (sim_For rfl (it_keys hh (sim_Name (x := "ahead") (by kernel_rfl))) (sim_tName (x := "name") (storeC (by kernel_rfl) ⟨_, rfl, by repeat (first | exact Nat.lt_succ_self _ | apply Nat.lt_succ_of_lt)⟩)) (sim_one (sim_Expr (sim_CallF F.gl_heappush F.kp_heappush (by kernel_rfl) (by kernel_rfl) rfl rfl (sim_arg (sim_Name (x := "heap") (by kernel_rfl)) (sim_arg (sim_Tuple (sim_arg (sim_UnaryOp (sim_Subscript (sim_Name (x := "ranks") (by kernel_rfl)) (sim_Name (x := "name") (by kernel_rfl)) (tail_pdget (fun _ _ => rfl))) sim_neg) (sim_arg (sim_Name (x := "name") (by kernel_rfl)) sim_arg_nil rfl) rfl)) sim_arg_nil rfl) rfl) (S_heappush F hh)) rfl rfl)) sim_nil (fun _ => rfl))
  (sim_cons
  (sim_While rfl (sim_test_Compare (sim_Name (x := "heap") (by kernel_rfl)) (sim_List sim_arg_nil) sim_plne0 rfl) (sim_cons
  (sim_Assign_Name (x := "name") (storeC (by kernel_rfl) ⟨_, rfl, by repeat (first | exact Nat.lt_succ_self _ | apply Nat.lt_succ_of_lt)⟩) (sim_Subscript (sim_CallF F.gl_heappop F.kp_heappop (by kernel_rfl) (by kernel_rfl) rfl rfl (sim_arg (sim_Name (x := "heap") (by kernel_rfl)) sim_arg_nil rfl) (S_heappop F hh)) sim_int (tail_ptget (fun _ _ => rfl))) (by kernel_rfl))
  (sim_one (sim_If (sim_test_Compare (sim_Name (x := "name") (by kernel_rfl)) (sim_Name (x := "held") (by kernel_rfl)) sim_plin rfl) (sim_one (sim_If (sim_test_Compare (sim_ListComp (by kernel_rfl) (fun _ => rfl) (it_list hh (sim_Name (x := "held") (by kernel_rfl))) ⟨fun C1 => (sim_tName (x := "other") (.inl (by kernel_rfl))), fun C1 => (sim_tests_one (sim_test_Compare (sim_Name (x := "name") (by kernel_rfl)) (sim_Subscript (sim_Name (x := "ahead") (by kernel_rfl)) (sim_Name (x := "other") (by kernel_rfl)) (tail_pdget (fun _ _ => rfl))) sim_plin rfl)), fun C1 => (sim_Name (x := "other") (by kernel_rfl))⟩) (sim_List sim_arg_nil) sim_pleq0 rfl) (sim_one (sim_Expr (sim_CallM PySem.F.plainAttrs_list PySem.F.slot_list_remove PySem.F.type_list_remove rfl rfl rfl rfl (sim_Name (x := "held") (by kernel_rfl)) isOf_list (sim_arg (sim_Name (x := "name") (by kernel_rfl)) sim_arg_nil rfl) sim_remove) rfl rfl)) sim_nil)) (sim_one (sim_If (sim_test_Compare (sim_ListComp (by kernel_rfl) (fun _ => rfl) (it_list hh (sim_Subscript (sim_Name (x := "ahead") (by kernel_rfl)) (sim_Name (x := "name") (by kernel_rfl)) (tail_pdget (fun _ _ => rfl)))) ⟨fun C2 => (sim_tName (x := "other") (.inl (by kernel_rfl))), fun C2 => (sim_tests_one (sim_test_Compare (sim_Name (x := "other") (by kernel_rfl)) (sim_Name (x := "held") (by kernel_rfl)) sim_plnotin rfl)), fun C2 => (sim_Name (x := "other") (by kernel_rfl))⟩) (sim_List sim_arg_nil) sim_pleq0 rfl) (sim_one (sim_Expr (sim_CallM PySem.F.plainAttrs_list PySem.F.slot_list_append PySem.F.type_list_append rfl rfl rfl rfl (sim_Name (x := "held") (by kernel_rfl)) isOf_list (sim_arg (sim_Name (x := "name") (by kernel_rfl)) sim_arg_nil rfl) sim_append) rfl rfl)) sim_nil))))) sim_nil)
  (sim_one (sim_Return (sim_CallB F.gl_sorted rfl (by kernel_rfl) (by kernel_rfl) rfl (sim_arg (sim_Name (x := "held") (by kernel_rfl)) sim_arg_nil rfl) sim_sorted))))))
theorem S_law_switched {ad : Ad} (F : FactsL TS ad) (hh : A.handled = none) : SimF prog w TS (n + 4) A (.ref ad.switched) (P_law_switched ad) := by
  obtain ⟨o, fd, H, hb⟩ := F.fn_law_switched
  exact sim_def H hh (bind_plain hb) (names_okP (by kernel_rfl)) (fun A' L q cd hh' => Q_law_switched F hh')
def B_law (ad : Ad) (sa : Addr) (si : List Int) : PTx LF :=
  (pseq
  (pbind (pcomp (.list []) (pbind (pscript sa si) pitems) [".0", "cell"] (pset "cell") (fun D => pwhen (pret true) (pemit (pbind (pbind (pbind (pget "cell") fun a => pbind (pret []) fun as => pret (a :: as)) pintof) fun a => pbind (pbind (pret (.int 10)) fun a => pbind (pret (.int 6)) fun b => ppow a b) fun b => pmod a b) D))) fun v => pbind (pset "cells" v) fun _ => pret .next)
  (pseq
  (pbind (pbind (pret (.int 17686)) fun a => pbind (pbind (pbind (pcomp (.list []) (pbind (pget "cells") penum) [".0", "place", "cell"] (ptupT [(pset "place"), (pset "cell")]) (fun D => pwhen (pret true) (pemit (pbind (pget "cell") fun a => pbind (pbind (pget "place") fun a => pbind (pret (.int 1)) fun b => padd a b) fun b => pmul a b) D))) fun a => pbind (pret []) fun as => pret (a :: as)) psum) fun b => padd a b) fun v => pbind (pset "code" v) fun _ => pret .next)
  (pseq
  (pbind (pcomp (.list []) (pbind (pbind (pbind (pret (.int 5)) fun a => pbind (pret []) fun as => pret (a :: as)) prange1) pritems) [".0", "place"] (pset "place") (fun D => pwhen (pret true) (pemit (pbind (pbind (pbind (pbind (pget "cells") fun a => pbind (pret []) fun as => pret (a :: as)) psum) fun a => pbind (pbind (pbind (pret (.int 1)) fun a => pbind (pbind (pget "code") fun a => pbind (pret (.int 4)) fun b => pmod a b) fun b => padd a b) fun a => pbind (pget "place") fun b => pmul a b) fun b => padd a b) fun a => pbind (pret (.int 5)) fun b => pmod a b) D))) fun v => pbind (pset "hidden" v) fun _ => pret .next)
  (pseq
  (pbind (pcomp (.list []) (pbind (pbind (pbind (pret (.int 5)) fun a => pbind (pret []) fun as => pret (a :: as)) prange1) pritems) [".0", "late", "early"] (pset "late") (fun D => pwhen (pret true) (pcomp2 (pbind (pbind (pbind (pget "late") fun a => pbind (pret []) fun as => pret (a :: as)) prange1) pritems) (pset "early") (pwhen (pret true) (pemit (pbind (pbind (pbind (pget "hidden") fun a => pbind (pget "early") fun b => plget a b) fun a => pbind (pbind (pbind (pget "hidden") fun a => pbind (pget "late") fun b => plget a b) fun a => pbind (pret []) fun as => pret (a :: as)) fun as => pret (a :: as)) ptuple) D))))) fun v => pbind (pset "pairs" v) fun _ => pret .next)
  (pseq
  (pbind (pcomp (.list []) (pbind (pget "pairs") penum) [".0", "place", "pair"] (ptupT [(pset "place"), (pset "pair")]) (fun D => pwhen (pbind (pbind (pbind (pget "code") fun a => pbind (pbind (pret (.int 2)) fun a => pbind (pget "place") fun b => ppow a b) fun b => pdiv a b) fun a => pbind (pret (.int 2)) fun b => pmod a b) ptruth) (pemit (pget "pair") D))) fun v => pbind (pset "steps" v) fun _ => pret .next)
  (pseq
  (pbind (pcomp (.dict [] 0) (pbind (pbind (pbind (pret (.int 5)) fun a => pbind (pret []) fun as => pret (a :: as)) prange1) pritems) [".0", "name"] (pset "name") (fun D => pwhen (pret true) (pemitD (pget "name") (pcomp (.list []) (pbind (pget "steps") pitems) [".0", "first", "second"] (ptupT [(pset "first"), (pset "second")]) (fun D => pwhen (pbind (pget "second") fun a => pbind (pget "name") fun b => peq a b) (pemit (pget "first") D))) D))) fun v => pbind (pset "ahead" v) fun _ => pret .next)
  (pseq
  (pbind (pcomp (.dict [] 0) (pbind (pbind (pbind (pret (.int 5)) fun a => pbind (pret []) fun as => pret (a :: as)) prange1) pritems) [".0", "name"] (pset "name") (fun D => pwhen (pret true) (pemitD (pget "name") (pcomp (.list []) (pbind (pget "steps") pitems) [".0", "first", "second"] (ptupT [(pset "first"), (pset "second")]) (fun D => pwhen (pbind (pget "first") fun a => pbind (pget "name") fun b => peq a b) (pemit (pget "second") D))) D))) fun v => pbind (pset "behind" v) fun _ => pret .next)
  (pseq
  (pbind (pbind (pbind (pget "ahead") fun a => pbind (pret []) fun as => pret (a :: as)) (P_law_read ad)) fun v => pbind ((ptupT [(pset "ranks"), (pset "under")]) v) fun _ => pret .next)
  (pseq
  (pbind (pbind (pbind (pget "behind") fun a => pbind (pret []) fun as => pret (a :: as)) (P_law_read ad)) fun v => pbind ((ptupT [(pset "backs"), (pset "over")]) v) fun _ => pret .next)
  (pseq
  (pbind (pbind (pbind (pbind (pbind (pcomp (.list []) (pbind (pbind (pbind (pret (.int 5)) fun a => pbind (pret []) fun as => pret (a :: as)) prange1) pritems) [".0", "name"] (pset "name") (fun D => pwhen (pbind (pbind (pbind (pget "code") fun a => pbind (pbind (pret (.int 2)) fun a => pbind (pbind (pret (.int 10)) fun a => pbind (pget "name") fun b => padd a b) fun b => ppow a b) fun b => pdiv a b) fun a => pbind (pret (.int 2)) fun b => pmod a b) ptruth) (pemit (pbind (pget "under") fun a => pbind (pget "name") fun b => pdget a b) D))) fun a => pbind (pret []) fun as => pret (a :: as)) (P_law_joined ad)) fun a => pbind (pret []) fun as => pret (a :: as)) plist) fun v => pbind (pset "rows" v) fun _ => pret .next)
  (pseq
  (pfor (pbind (pbind (pbind (pret (.int 2)) fun a => pbind (pret []) fun as => pret (a :: as)) prange1) pritems) (pset "turn") (pseq
  (pbind (pbind (pget "rows") fun a => pbind (pislist a) fun _ => pbind (pbind (pbind (pbind (pget "ahead") fun a => pbind (pbind (pget "ranks") fun a => pbind (pbind (pget "under") fun a => pbind (pbind (pbind (pget "rows") fun a => pbind (pbind (pret (.int 1)) pneg) fun b => pllast a b) fun a => pbind (pret []) fun as => pret (a :: as)) fun as => pret (a :: as)) fun as => pret (a :: as)) fun as => pret (a :: as)) (P_law_following ad)) fun a => pbind (pret []) fun as => pret (a :: as)) fun as => plappend a as) fun _ => pret .next)
  (pif (pbind (pbind (pget "rows") fun a => pbind (pbind (pret (.int 1)) pneg) fun b => pllast a b) fun a => pbind (pbind (pbind (pget "ahead") fun a => pbind (pbind (pget "ranks") fun a => pbind (pbind (pbind (pget "rows") fun a => pbind (pbind (pret (.int 2)) pneg) fun b => plneg a b) fun a => pbind (pret []) fun as => pret (a :: as)) fun as => pret (a :: as)) fun as => pret (a :: as)) (P_law_switched ad)) fun b => pnot pleq a b) (pbind (pret (.bool false)) fun v => pret (.ret v)) (pret .next))) (pret .next))
  (pseq
  (pbind (pbind (pbind (pbind (pbind (pret (.int 5)) fun a => pbind (pret []) fun as => pret (a :: as)) prange1) fun a => pbind (pret []) fun as => pret (a :: as)) plistof) fun v => pbind (pset "names" v) fun _ => pret .next)
  (pseq
  (pfor (pbind (pbind (pbind (pret (.int 2)) fun a => pbind (pbind (pret (.int 0)) fun a => pbind (pbind (pbind (pret (.int 1)) pneg) fun a => pbind (pret []) fun as => pret (a :: as)) fun as => pret (a :: as)) fun as => pret (a :: as)) prange3) pritems) (pset "turn") (pseq
  (pbind (pbind (pbind (pbind (pget "names") fun a => pbind (pbind (pbind (pget "rows") fun a => pbind (pget "turn") fun b => plget a b) fun a => pbind (pret []) fun as => pret (a :: as)) fun as => pret (a :: as)) (P_sorted_list_difference ad)) fun a => pbind (pret (.int 0)) fun b => ptget a b) fun v => pbind (pset "outside" v) fun _ => pret .next)
  (pseq
  (pbind (pbind (pbind (pget "behind") fun a => pbind (pbind (pget "backs") fun a => pbind (pbind (pget "over") fun a => pbind (pbind (pget "outside") fun a => pbind (pret []) fun as => pret (a :: as)) fun as => pret (a :: as)) fun as => pret (a :: as)) fun as => pret (a :: as)) (P_law_following ad)) fun v => pbind (pset "followed" v) fun _ => pret .next)
  (pif (pbind (pbind (pbind (pbind (pget "names") fun a => pbind (pbind (pget "followed") fun a => pbind (pret []) fun as => pret (a :: as)) fun as => pret (a :: as)) (P_sorted_list_difference ad)) fun a => pbind (pret (.int 0)) fun b => ptget a b) fun a => pbind (pbind (pget "rows") fun a => pbind (pbind (pget "turn") fun a => pbind (pret (.int 1)) fun b => psub a b) fun b => plget a b) fun b => pnot pleq a b) (pbind (pret (.bool false)) fun v => pret (.ret v)) (pret .next)))) (pret .next))
  (pbind (pret (.bool true)) fun v => pret (.ret v)))))))))))))))
theorem Q_law {ad : Ad} (F : FactsL TS ad) (hh : A.handled = none) {L f : Addr} {q : Str} {cd : Value} {sa : Addr} {si : List Int} (hsc : TS.scr = some (sa, si)) : Sim prog w TS (n + 7) A (fenv (fnScope (fnAt PySem.Challenge.pw_nq0219_01 20)) L q f cd) (execs (fnBody (fnAt PySem.Challenge.pw_nq0219_01 20)) (fenv (fnScope (fnAt PySem.Challenge.pw_nq0219_01 20)) L q f cd)) FlRel (B_law ad sa si) :=
  (sim_cons
  (sim_Assign_Name (x := "cells") (storeC (by kernel_rfl) ⟨_, rfl, by repeat (first | exact Nat.lt_succ_self _ | apply Nat.lt_succ_of_lt)⟩) (sim_ListComp (by kernel_rfl) (fun _ => rfl) (it_list hh (sim_script hsc (by kernel_rfl))) ⟨fun C1 => (sim_tName (x := "cell") (.inl (by kernel_rfl))), fun C1 => sim_tests_nil, fun C1 => (sim_BinOp (sim_CallB F.gl_int rfl (by kernel_rfl) (by kernel_rfl) rfl (sim_arg (sim_Name (x := "cell") (by kernel_rfl)) sim_arg_nil rfl) sim_intof) (sim_BinOp sim_int sim_int sim_pow) sim_mod)⟩) (by kernel_rfl))
  (sim_cons
  (sim_Assign_Name (x := "code") (storeC (by kernel_rfl) ⟨_, rfl, by repeat (first | exact Nat.lt_succ_self _ | apply Nat.lt_succ_of_lt)⟩) (sim_BinOp sim_int (sim_CallB F.gl_sum rfl (by kernel_rfl) (by kernel_rfl) rfl (sim_arg (sim_ListComp (by kernel_rfl) (fun _ => rfl) (it_enum hh F.gl_enumerate (by kernel_rfl) rfl (sim_Name (x := "cells") (by kernel_rfl))) ⟨fun C2 => (sim_tTuple hh (.cons (sim_tName (x := "place") (.inl (by kernel_rfl))) (.cons (sim_tName (x := "cell") (.inl (by kernel_rfl))) .nil))), fun C2 => sim_tests_nil, fun C2 => (sim_BinOp (sim_Name (x := "cell") (by kernel_rfl)) (sim_BinOp (sim_Name (x := "place") (by kernel_rfl)) sim_int sim_add) sim_mul)⟩) sim_arg_nil rfl) (sim_sum hh)) sim_add) (by kernel_rfl))
  (sim_cons
  (sim_Assign_Name (x := "hidden") (storeC (by kernel_rfl) ⟨_, rfl, by repeat (first | exact Nat.lt_succ_self _ | apply Nat.lt_succ_of_lt)⟩) (sim_ListComp (by kernel_rfl) (fun _ => rfl) (it_range hh (sim_CallB F.gl_range rfl (by kernel_rfl) (by kernel_rfl) rfl (sim_arg sim_int sim_arg_nil rfl) sim_range1)) ⟨fun C3 => (sim_tName (x := "place") (.inl (by kernel_rfl))), fun C3 => sim_tests_nil, fun C3 => (sim_BinOp (sim_BinOp (sim_CallB F.gl_sum rfl (by kernel_rfl) (by kernel_rfl) rfl (sim_arg (sim_Name (x := "cells") (by kernel_rfl)) sim_arg_nil rfl) (sim_sum hh)) (sim_BinOp (sim_BinOp sim_int (sim_BinOp (sim_Name (x := "code") (by kernel_rfl)) sim_int sim_mod) sim_add) (sim_Name (x := "place") (by kernel_rfl)) sim_mul) sim_add) sim_int sim_mod)⟩) (by kernel_rfl))
  (sim_cons
  (sim_Assign_Comp2 (y := "pairs") (.inl (by kernel_rfl)) (by kernel_rfl) (by kernel_rfl) (fun _ => rfl) (it_range hh (sim_CallB F.gl_range rfl (by kernel_rfl) (by kernel_rfl) rfl (sim_arg sim_int sim_arg_nil rfl) sim_range1)) ⟨fun C4 => (sim_tName (x := "late") (.inl (by kernel_rfl))), fun C4 => sim_tests_nil, fun C4 => (it_range hh (sim_CallB F.gl_range rfl (by kernel_rfl) (by kernel_rfl) rfl (sim_arg (sim_Name (x := "late") (by kernel_rfl)) sim_arg_nil rfl) sim_range1)), fun C4 _ => rfl, fun C4 => (sim_tName (x := "early") (.inl (by kernel_rfl))), fun C4 => sim_tests_nil, fun C4 => (sim_Tuple (sim_arg (sim_Subscript (sim_Name (x := "hidden") (by kernel_rfl)) (sim_Name (x := "early") (by kernel_rfl)) (tail_plget (fun _ _ => rfl))) (sim_arg (sim_Subscript (sim_Name (x := "hidden") (by kernel_rfl)) (sim_Name (x := "late") (by kernel_rfl)) (tail_plget (fun _ _ => rfl))) sim_arg_nil rfl) rfl))⟩)
  (sim_cons
  (sim_Assign_Name (x := "steps") (storeC (by kernel_rfl) ⟨_, rfl, by repeat (first | exact Nat.lt_succ_self _ | apply Nat.lt_succ_of_lt)⟩) (sim_ListComp (by kernel_rfl) (fun _ => rfl) (it_enum hh F.gl_enumerate (by kernel_rfl) rfl (sim_Name (x := "pairs") (by kernel_rfl))) ⟨fun C5 => (sim_tTuple hh (.cons (sim_tName (x := "place") (.inl (by kernel_rfl))) (.cons (sim_tName (x := "pair") (.inl (by kernel_rfl))) .nil))), fun C5 => (sim_tests_one (sim_test_val (sim_BinOp (sim_BinOp (sim_Name (x := "code") (by kernel_rfl)) (sim_BinOp sim_int (sim_Name (x := "place") (by kernel_rfl)) sim_pow) sim_div) sim_int sim_mod) sim_truth rfl)), fun C5 => (sim_Name (x := "pair") (by kernel_rfl))⟩) (by kernel_rfl))
  (sim_cons
  (sim_Assign_DComp (y := "ahead") (.inl (by kernel_rfl)) (by kernel_rfl) (by kernel_rfl) (fun _ => rfl) (it_range hh (sim_CallB F.gl_range rfl (by kernel_rfl) (by kernel_rfl) rfl (sim_arg sim_int sim_arg_nil rfl) sim_range1)) ⟨fun C6 => (sim_tName (x := "name") (storeC (by kernel_rfl) ⟨_, rfl, by repeat (first | exact Nat.lt_succ_self _ | apply Nat.lt_succ_of_lt)⟩)), fun C6 => sim_tests_nil, fun C6 => (sim_Name (x := "name") (by kernel_rfl)), fun C6 => (sim_ListComp (by kernel_rfl) (fun _ => rfl) (it_list hh (sim_Name (x := "steps") (by kernel_rfl))) ⟨fun C7 => (sim_tTuple hh (.cons (sim_tName (x := "first") (.inl (by kernel_rfl))) (.cons (sim_tName (x := "second") (.inl (by kernel_rfl))) .nil))), fun C7 => (sim_tests_one (sim_test_Compare (sim_Name (x := "second") (by kernel_rfl)) (sim_Name (x := "name") (by kernel_rfl)) sim_eq rfl)), fun C7 => (sim_Name (x := "first") (by kernel_rfl))⟩)⟩)
  (sim_cons
  (sim_Assign_DComp (y := "behind") (.inl (by kernel_rfl)) (by kernel_rfl) (by kernel_rfl) (fun _ => rfl) (it_range hh (sim_CallB F.gl_range rfl (by kernel_rfl) (by kernel_rfl) rfl (sim_arg sim_int sim_arg_nil rfl) sim_range1)) ⟨fun C8 => (sim_tName (x := "name") (storeC (by kernel_rfl) ⟨_, rfl, by repeat (first | exact Nat.lt_succ_self _ | apply Nat.lt_succ_of_lt)⟩)), fun C8 => sim_tests_nil, fun C8 => (sim_Name (x := "name") (by kernel_rfl)), fun C8 => (sim_ListComp (by kernel_rfl) (fun _ => rfl) (it_list hh (sim_Name (x := "steps") (by kernel_rfl))) ⟨fun C9 => (sim_tTuple hh (.cons (sim_tName (x := "first") (.inl (by kernel_rfl))) (.cons (sim_tName (x := "second") (.inl (by kernel_rfl))) .nil))), fun C9 => (sim_tests_one (sim_test_Compare (sim_Name (x := "first") (by kernel_rfl)) (sim_Name (x := "name") (by kernel_rfl)) sim_eq rfl)), fun C9 => (sim_Name (x := "second") (by kernel_rfl))⟩)⟩)
  (sim_cons
  (sim_Assign (sim_CallF F.gl_law_read F.kp_law_read (by kernel_rfl) (by kernel_rfl) rfl rfl (sim_arg (sim_Name (x := "ahead") (by kernel_rfl)) sim_arg_nil rfl) (S_law_read F hh)) (sim_tTuple hh (.cons (sim_tName (x := "ranks") (.inl (by kernel_rfl))) (.cons (sim_tName (x := "under") (storeC (by kernel_rfl) ⟨_, rfl, by repeat (first | exact Nat.lt_succ_self _ | apply Nat.lt_succ_of_lt)⟩)) .nil))) rfl rfl rfl)
  (sim_cons
  (sim_Assign (sim_CallF F.gl_law_read F.kp_law_read (by kernel_rfl) (by kernel_rfl) rfl rfl (sim_arg (sim_Name (x := "behind") (by kernel_rfl)) sim_arg_nil rfl) (S_law_read F hh)) (sim_tTuple hh (.cons (sim_tName (x := "backs") (.inl (by kernel_rfl))) (.cons (sim_tName (x := "over") (.inl (by kernel_rfl))) .nil))) rfl rfl rfl)
  (sim_cons
  (sim_Assign_Name (x := "rows") (.inl (by kernel_rfl)) (sim_List (sim_arg (sim_CallF F.gl_law_joined F.kp_law_joined (by kernel_rfl) (by kernel_rfl) rfl rfl (sim_arg (sim_ListComp (by kernel_rfl) (fun _ => rfl) (it_range hh (sim_CallB F.gl_range rfl (by kernel_rfl) (by kernel_rfl) rfl (sim_arg sim_int sim_arg_nil rfl) sim_range1)) ⟨fun C10 => (sim_tName (x := "name") (.inl (by kernel_rfl))), fun C10 => (sim_tests_one (sim_test_val (sim_BinOp (sim_BinOp (sim_Name (x := "code") (by kernel_rfl)) (sim_BinOp sim_int (sim_BinOp sim_int (sim_Name (x := "name") (by kernel_rfl)) sim_add) sim_pow) sim_div) sim_int sim_mod) sim_truth rfl)), fun C10 => (sim_Subscript (sim_Name (x := "under") (by kernel_rfl)) (sim_Name (x := "name") (by kernel_rfl)) (tail_pdget (fun _ _ => rfl)))⟩) sim_arg_nil rfl) (S_law_joined F hh)) sim_arg_nil rfl)) (by kernel_rfl))
  (sim_cons
  (sim_For rfl (it_range hh (sim_CallB F.gl_range rfl (by kernel_rfl) (by kernel_rfl) rfl (sim_arg sim_int sim_arg_nil rfl) sim_range1)) (sim_tName (x := "turn") (.inl (by kernel_rfl))) (sim_cons
  (sim_Expr (sim_CallM PySem.F.plainAttrs_list PySem.F.slot_list_append PySem.F.type_list_append rfl rfl rfl rfl (sim_Name (x := "rows") (by kernel_rfl)) isOf_list (sim_arg (sim_CallF F.gl_law_following F.kp_law_following (by kernel_rfl) (by kernel_rfl) rfl rfl (sim_arg (sim_Name (x := "ahead") (by kernel_rfl)) (sim_arg (sim_Name (x := "ranks") (by kernel_rfl)) (sim_arg (sim_Name (x := "under") (by kernel_rfl)) (sim_arg (sim_Subscript (sim_Name (x := "rows") (by kernel_rfl)) (sim_UnaryOp sim_int sim_neg) (tail_pllast (fun _ _ => rfl))) sim_arg_nil rfl) rfl) rfl) rfl) (S_law_following F hh)) sim_arg_nil rfl) sim_append) rfl rfl)
  (sim_one (sim_If (sim_test_Compare (sim_Subscript (sim_Name (x := "rows") (by kernel_rfl)) (sim_UnaryOp sim_int sim_neg) (tail_pllast (fun _ _ => rfl))) (sim_CallF F.gl_law_switched F.kp_law_switched (by kernel_rfl) (by kernel_rfl) rfl rfl (sim_arg (sim_Name (x := "ahead") (by kernel_rfl)) (sim_arg (sim_Name (x := "ranks") (by kernel_rfl)) (sim_arg (sim_Subscript (sim_Name (x := "rows") (by kernel_rfl)) (sim_UnaryOp sim_int sim_neg) (tail_plneg (fun _ _ => rfl))) sim_arg_nil rfl) rfl) rfl) (S_law_switched F hh)) sim_plne rfl) (sim_one (sim_Return sim_bool)) sim_nil))) sim_nil (fun _ => rfl))
  (sim_cons
  (sim_Assign_Name (x := "names") (.inl (by kernel_rfl)) (sim_CallB F.gl_list rfl (by kernel_rfl) (by kernel_rfl) rfl (sim_arg (sim_CallB F.gl_range rfl (by kernel_rfl) (by kernel_rfl) rfl (sim_arg sim_int sim_arg_nil rfl) sim_range1) sim_arg_nil rfl) (sim_listof hh)) (by kernel_rfl))
  (sim_cons
  (sim_For rfl (it_range hh (sim_CallB F.gl_range rfl (by kernel_rfl) (by kernel_rfl) rfl (sim_arg sim_int (sim_arg sim_int (sim_arg (sim_UnaryOp sim_int sim_neg) sim_arg_nil rfl) rfl) rfl) sim_range3)) (sim_tName (x := "turn") (.inl (by kernel_rfl))) (sim_cons
  (sim_Assign_Name (x := "outside") (.inl (by kernel_rfl)) (sim_Subscript (sim_CallF F.gl_sorted_list_difference F.kp_sorted_list_difference (by kernel_rfl) (by kernel_rfl) rfl rfl (sim_arg (sim_Name (x := "names") (by kernel_rfl)) (sim_arg (sim_Subscript (sim_Name (x := "rows") (by kernel_rfl)) (sim_Name (x := "turn") (by kernel_rfl)) (tail_plget (fun _ _ => rfl))) sim_arg_nil rfl) rfl) (S_sorted_list_difference F hh)) sim_int (tail_ptget (fun _ _ => rfl))) (by kernel_rfl))
  (sim_cons
  (sim_Assign_Name (x := "followed") (.inl (by kernel_rfl)) (sim_CallF F.gl_law_following F.kp_law_following (by kernel_rfl) (by kernel_rfl) rfl rfl (sim_arg (sim_Name (x := "behind") (by kernel_rfl)) (sim_arg (sim_Name (x := "backs") (by kernel_rfl)) (sim_arg (sim_Name (x := "over") (by kernel_rfl)) (sim_arg (sim_Name (x := "outside") (by kernel_rfl)) sim_arg_nil rfl) rfl) rfl) rfl) (S_law_following F hh)) (by kernel_rfl))
  (sim_one (sim_If (sim_test_Compare (sim_Subscript (sim_CallF F.gl_sorted_list_difference F.kp_sorted_list_difference (by kernel_rfl) (by kernel_rfl) rfl rfl (sim_arg (sim_Name (x := "names") (by kernel_rfl)) (sim_arg (sim_Name (x := "followed") (by kernel_rfl)) sim_arg_nil rfl) rfl) (S_sorted_list_difference F hh)) sim_int (tail_ptget (fun _ _ => rfl))) (sim_Subscript (sim_Name (x := "rows") (by kernel_rfl)) (sim_BinOp (sim_Name (x := "turn") (by kernel_rfl)) sim_int sim_sub) (tail_plget (fun _ _ => rfl))) sim_plne rfl) (sim_one (sim_Return sim_bool)) sim_nil)))) sim_nil (fun _ => rfl))
  (sim_one (sim_Return sim_bool)))))))))))))))
end
end Mine
end
noncomputable section
open PySem PySem.W PyProof.Rows PySem.Calls PySem.SeqAt
set_option Elab.async false
set_option linter.unusedVariables false
set_option maxRecDepth 100000
namespace Mine
def glOf (K : Frag) (x : String) : Option Value := if x = "__name__" then none else match nsIn K mainGlobals (Str.ofString x) with
  | some (some v) => some v
  | some none => bootBuiltins (Str.ofString x)
  | none => none
abbrev topS (K : Frag) (a : Addr) (is : List Int) : TopS := ⟨glOf K, K, true, some (a, is)⟩
theorem topF_of {K : Frag} {h : Heap} {p : Program} {loose : List Str} {mean : ExcName → Option Value} {mg mb : Str → Option Value} {a : Addr} {is : List Int} {items : List Value} (X : K.In h) (T : Top p loose mean mg mb h) (hs : importsNone p = true) (hL : h.IsList a items.toArray) (hI : IntsAre items is) (hz : items.length ≤ sizeLine) : TopF (topS K a is) h := by
  refine ⟨T.nolimit, ⟨mg, mb, T.g, T.b, fun x v hv => ?_⟩, X, ?_, fun a' is' e => ?_⟩
  · change glOf K x = some v at hv
    unfold glOf at hv
    split at hv
    · cases hv
    · rename_i hn
      split at hv
      · rename_i u hu
        cases hv
        exact .inl (mg_of X T.g hu)
      · rename_i hu
        exact .inr ⟨mg_none_of X T.g hu, by rw [T.builtins _ fun e => hn (ofString_inj.mp e)]; exact hv⟩
      · cases hv
  · obtain ⟨mm, ⟨o, _, _, ho, _⟩, _⟩ := (T.seer hs).mods; exact ⟨o, ho⟩
  · cases e
    exact ⟨items.toArray, hL, by simpa using hI, by simpa using hz⟩
section
variable {prog : Program} {w : World} {TS : TopS} {s : Shared}
/-- the law's call from the module's level -/
theorem top_go {fa a : Addr} {st : Stmt} {m : PTx LF} {o : Obj} {fd : FuncData} (H : FnIs TS fa o fd (fnScope st) (fnBody st)) (hb : ∀ (s : Shared) (xs : List Value), TS.K.In s.heap → xs.length = 1 → BindsTo s fd ⟨xs, []⟩ ([Str.ofString "script"].zip xs)) (hnm : ([(Str.ofString "script")].all fun x => (fnScope st).names.lookup x == some .local || (fnScope st).names.lookup x == some .cell) = true)
    (T : TopF TS s.heap)
    (hq : ∀ A L q cd, A.handled = none → Sim prog w TS 8 A (fenv (fnScope st) L q fa cd) (execs (fnBody st) (fenv (fnScope st) L q fa cd)) FlRel m)
    (hm : m (fun f _ => f = .ret (.bool true)) noE ⟨bindLoc [("script", .raw (.ref a))] fun _ => none, fun _ => none⟩) :
    codeAny (model prog w) callerA (.call (.ref fa) ⟨[.ref a], []⟩) (fun r s' => r = .ok (.ret (.bool true)) ∧ (∀ b o, s.heap.get? b = some o → s'.heap.get? b = some o) ∧ s'.os = s.os ∧ s'.gens = s.gens) s := by
  have ho : s.heap.get? fa = some o := T.kin _ _ H.at_
  refine codeAny_call_function (by decide) ho H.data (by rw [H.scope]; exact H.co) (by rw [H.scope]; exact H.gen) H.body (codeRec_of T.kin H.code) ?_
  rw [H.scope, H.globals, H.closure, H.builtins]
  refine hb s [.ref a] T.kin rfl _ _ _ _ ?_
  refine wpAny_newFunctionEnv_cells H.kind (fun x hx => ?_) fun env' he s₂ ic => ?_
  · obtain rfl : x = (Str.ofString "script", .ref a) := by simpa using hx
    simp only [List.all_cons, List.all_nil, Bool.and_true, Bool.or_eq_true, beq_iff_eq] at hnm
    rcases hnm with z | z
    · exact .inl z
    · obtain ⟨b, hb, _⟩ := cellsFrom_own (fnScope st).names (s.heap.objs.size + 1) [] _ (mem_of_lookup z)
      exact .inr ⟨z, by rw [hb]; rfl⟩
  · have he' : env' = fenv (fnScope st) s.heap.objs.size (fd.qualname ++ ".<locals>.") fa fd.code := he
    subst he'
    clear he
    obtain ⟨h₂, tk, rfl⟩ := ic.toInCall.same
    have kk := ic.toInCall.keep
    let c : Cx := ⟨s.heap, [], s.gens, s.os, s.drawn⟩
    have rb : BRel h₂ [("script", .raw (.ref a))] [(Str.ofString "script", .ref a)] := .cons (.raw _) .nil
    have hcl : ∀ y ∈ (fenv (fnScope st) s.heap.objs.size (fd.qualname ++ ".<locals>.") fa fd.code).cells, s.heap.objs.size < y.2 ∧ ∃ v, h₂.IsCell y.2 v := fun y hy => by
      refine ⟨ic.above y.1 y.2 hy, ?_⟩
      have hl := lookup_of_mem (by rw [show (fenv (fnScope st) s.heap.objs.size (fd.qualname ++ ".<locals>.") fa fd.code).cells = cellsFrom (s.heap.objs.size + 1) (fnScope st).names [] from rfl, cellsFrom_keys]; simp only [List.map_nil, List.append_nil]; exact List.pairwise_reverse.mpr (List.Pairwise.imp (fun h => Ne.symm h) ((List.filter_sublist.map _).nodup H.nodup))) hy
      exact ⟨_, ic.cell _ _ hl⟩
    have hbn : ∀ b, s.heap.objs.size ≤ b → s.heap.get? b = none := fun b hb => by
      cases z : s.heap.get? b with
      | none => rfl
      | some _ => exact absurd (Heap.lt_size z) (Nat.not_lt.mpr hb)
    have r : Rel prog w c (fenv (fnScope st) s.heap.objs.size (fd.qualname ++ ".<locals>.") fa fd.code) ⟨bindLoc [("script", .raw (.ref a))] fun _ => none, fun _ => none⟩ { s with heap := h₂, toks := tk } := by
      refine ⟨kk, fun _ hp => (nomatch hp), ⟨_, ic.toInCall.ns, fun x hx => bind_local rb (l := fun _ => none) (m := fun _ => none) (fun _ _ => trivial) x hx⟩, fun x hx => ?_, fun y hy => (hcl y hy).2, fun _ _ e => (nomatch e), fun _ _ e => (nomatch e), rfl, rfl, rfl⟩
      rcases hx with hx | hx
      · obtain ⟨b, hb, _⟩ := cellsFrom_own (fnScope st).names (s.heap.objs.size + 1) [] _ (mem_of_lookup hx)
        exact ⟨b, _, hb, ic.cell _ b hb, bind_cell rb (l := fun _ => none) (m := fun _ => none) (fun _ _ => trivial) x hx⟩
      · exact absurd rfl (H.free _ (mem_of_lookup hx))
    have W : WF TS 8 c (callerA.deeper (fenv (fnScope st) s.heap.objs.size (fd.qualname ++ ".<locals>.") fa fd.code)) (fenv (fnScope st) s.heap.objs.size (fd.qualname ++ ".<locals>.") fa fd.code) := by
      refine ⟨⟨Nat.le_refl _, fun _ hp => (nomatch hp), fun y hy => Nat.ne_of_gt (hcl y hy).1, fun y hy => hbn _ (Nat.le_of_lt (hcl y hy).1), fun y hy y' hy' e => name_of_addr ic.apart (c := y.2) hy (e ▸ hy'), fun _ hp => (nomatch hp), H.kind, rfl, rfl⟩, (by decide : callerA.depth + 1 + 8 < recursionLimit), (by decide : callerA.units + 3 + 64 * 8 < cLine), T, fun L hL => by cases hL; exact Nat.le_refl _, fun _ e0 h0 => (nomatch h0), fun _ => ⟨[], rfl, fun _ he => (nomatch he)⟩⟩
    refine ⟨T.nolimit.keeps kk, codeAny_func ?_⟩
    refine wpAny_mono ((hq _ _ _ _ rfl _ _ _ W r).go (Imm.refl _) hm (P := fun fl s' => (Except.ok (Flow.ret (match fl with | .ret v => v | _ => .none)) : Result) = .ok (.ret (.bool true)) ∧ (∀ b o, s.heap.get? b = some o → s'.heap.get? b = some o) ∧ s'.os = s.os ∧ s'.gens = s.gens) fun fl v σ₄ s₄ rf h₄ i₄ j₄ q₄ => ?_) (fun _ _ x => x) fun _ _ x => x.no.elim
    subst q₄
    cases rf with
    | ret rv => cases rv; exact ⟨rfl, h₄.keep, h₄.os, h₄.gens⟩
end
end Mine
end
noncomputable section
open PySem PySem.W PyProof.Rows PySem.Calls PySem.SeqAt
set_option Elab.async false
set_option linter.unusedVariables false
set_option maxRecDepth 100000
set_option maxHeartbeats 8000000
namespace Mine
noncomputable def K1 : Params → Frag := fun P => [
  (2, { cls := Value.none, data := Data.dict #[] }),
  (3, { cls := Value.type "dict", data := Data.dict #[{ hash := PyData.keyHash P (Str.ofString "__name__"), key := Value.str (Str.ofString "__name__") 165, val := Value.str (Str.ofString "law_nq0219_01") 445 }, { hash := PyData.keyHash P (Str.ofString "__doc__"), key := Value.str (Str.ofString "__doc__") 166, val := Value.none }, { hash := PyData.keyHash P (Str.ofString "__package__"), key := Value.str (Str.ofString "__package__") 167, val := Value.none }, { hash := PyData.keyHash P (Str.ofString "__loader__"), key := Value.str (Str.ofString "__loader__") 168, val := Value.builtin "__main__.__loader__#opaque" }, { hash := PyData.keyHash P (Str.ofString "__spec__"), key := Value.str (Str.ofString "__spec__") 169, val := Value.none }, { hash := PyData.keyHash P (Str.ofString "__annotations__"), key := Value.str (Str.ofString "__annotations__") 170, val := Value.ref 6 }, { hash := PyData.keyHash P (Str.ofString "__builtins__"), key := Value.str (Str.ofString "__builtins__") 171, val := Value.ref 4 }, { hash := PyData.keyHash P (Str.ofString "__file__"), key := Value.str (Str.ofString "__file__") 173, val := Value.str (Str.ofString "/claim/cut.py") 172 }, { hash := PyData.keyHash P (Str.ofString "__cached__"), key := Value.str (Str.ofString "__cached__") 174, val := Value.none }, { hash := PyData.keyHash P (Str.ofString "_wall"), key := Value.str (Str.ofString "_wall") 193, val := Value.ref 21 }, { hash := PyData.keyHash P (Str.ofString "_NODE_OUT"), key := Value.str (Str.ofString "_NODE_OUT") 198, val := Value.int (-1) 197 }, { hash := PyData.keyHash P (Str.ofString "_NODE_DONE"), key := Value.str (Str.ofString "_NODE_DONE") 201, val := Value.int (-2) 200 }, { hash := PyData.keyHash P (Str.ofString "_NodeInfo"), key := Value.str (Str.ofString "_NodeInfo") 238, val := Value.ref 40 }, { hash := PyData.keyHash P (Str.ofString "CycleError"), key := Value.str (Str.ofString "CycleError") 256, val := Value.ref 55 }, { hash := PyData.keyHash P (Str.ofString "TopologicalSorter"), key := Value.str (Str.ofString "TopologicalSorter") 375, val := Value.ref 137 }, { hash := PyData.keyHash P (Str.ofString "heappush"), key := Value.str (Str.ofString "heappush") 385, val := Value.ref 148 }, { hash := PyData.keyHash P (Str.ofString "heappop"), key := Value.str (Str.ofString "heappop") 394, val := Value.ref 155 }, { hash := PyData.keyHash P (Str.ofString "heapify"), key := Value.str (Str.ofString "heapify") 403, val := Value.ref 162 }, { hash := PyData.keyHash P (Str.ofString "_siftdown"), key := Value.str (Str.ofString "_siftdown") 415, val := Value.ref 169 }, { hash := PyData.keyHash P (Str.ofString "_siftup"), key := Value.str (Str.ofString "_siftup") 428, val := Value.ref 176 }, { hash := PyData.keyHash P (Str.ofString "sorted_list_difference"), key := Value.str (Str.ofString "sorted_list_difference") 444, val := Value.ref 183 }, { hash := PyData.keyHash P (Str.ofString "_law_joined"), key := Value.str (Str.ofString "_law_joined") 455, val := Value.ref 190 }, { hash := PyData.keyHash P (Str.ofString "_law_read"), key := Value.str (Str.ofString "_law_read") 461, val := Value.ref 195 }, { hash := PyData.keyHash P (Str.ofString "_law_following"), key := Value.str (Str.ofString "_law_following") 467, val := Value.ref 200 }, { hash := PyData.keyHash P (Str.ofString "_law_switched"), key := Value.str (Str.ofString "_law_switched") 473, val := Value.ref 205 }, { hash := PyData.keyHash P (Str.ofString "law"), key := Value.str (Str.ofString "law") 479, val := Value.ref 210 }] 26 }),
  (15, { cls := Value.type "tuple", data := Data.seq #[] }),
  (17, { cls := Value.type "tuple", data := Data.seq #[Value.str (Str.ofString "k") 190] }),
  (18, { cls := Value.type "tuple", data := Data.seq #[] }),
  (20, { cls := Value.type "code", data := Data.fields #[Value.str (Str.ofString "_wall") 187, Value.str (Str.ofString "_wall") 188, Value.str (Str.ofString "/claim/cut.py") 189, Value.int 1 0, Value.int 1 0, Value.int 0 0, Value.int 0 0, Value.int 3 0, Value.ref 15, Value.bool true, Value.int 181 0, Value.ref 16, Value.none, Value.ref 17, Value.ref 18, Value.ref 19, Value.int 191 0, Value.int 1 0, Value.str (Str.ofString "/claim/cut.py") 192] }),
  (21, { cls := Value.type "function", data := Data.func { name := Str.ofString "_wall", qualname := Str.ofString "_wall", params := fnParams (fnAt PySem.Challenge.pw_nq0219_01 0), body := .stmts (fnBody (fnAt PySem.Challenge.pw_nq0219_01 0)), scope := fnScope (fnAt PySem.Challenge.pw_nq0219_01 0), globals := 3, closure := [], defaults := Value.none, kwdefaults := Value.none, pyModule := Value.str (Str.ofString "__main__") 164, code := Value.ref 20 } }),
  (29, { cls := Value.type "tuple", data := Data.seq #[Value.str (Str.ofString "node") 214, Value.str (Str.ofString "npredecessors") 215, Value.str (Str.ofString "successors") 216] }),
  (30, { cls := Value.type "tuple", data := Data.seq #[] }),
  (32, { cls := Value.type "tuple", data := Data.seq #[Value.str (Str.ofString "self") 221, Value.str (Str.ofString "node") 222] }),
  (33, { cls := Value.type "tuple", data := Data.seq #[] }),
  (35, { cls := Value.type "code", data := Data.fields #[Value.str (Str.ofString "__init__") 218, Value.str (Str.ofString "_NodeInfo.__init__") 219, Value.str (Str.ofString "/claim/cut.py") 220, Value.int 10 0, Value.int 2 0, Value.int 0 0, Value.int 0 0, Value.int 3 0, Value.ref 30, Value.bool true, Value.int 181 0, Value.ref 31, Value.none, Value.ref 32, Value.ref 33, Value.ref 34, Value.int 223 0, Value.int 10 0, Value.str (Str.ofString "/claim/cut.py") 224] }),
  (36, { cls := Value.type "function", data := Data.func { name := Str.ofString "__init__", qualname := Str.ofString "_NodeInfo.__init__", params := fnParams (inAt (fnAt PySem.Challenge.pw_nq0219_01 4) 1), body := .stmts (fnBody (inAt (fnAt PySem.Challenge.pw_nq0219_01 4) 1)), scope := fnScope (inAt (fnAt PySem.Challenge.pw_nq0219_01 4) 1), globals := 3, closure := [], defaults := Value.none, kwdefaults := Value.none, pyModule := Value.str (Str.ofString "cpy313.graphlib") 194, code := Value.ref 35 } }),
  (37, { cls := Value.type "tuple", data := Data.seq #[Value.str (Str.ofString "node") 226, Value.str (Str.ofString "npredecessors") 227, Value.str (Str.ofString "successors") 228] }),
  (39, { cls := Value.type "dict", data := Data.dict #[{ hash := PyData.keyHash P (Str.ofString "__module__"), key := Value.str (Str.ofString "__module__") 209, val := Value.str (Str.ofString "cpy313.graphlib") 194 }, { hash := PyData.keyHash P (Str.ofString "__firstlineno__"), key := Value.str (Str.ofString "__firstlineno__") 213, val := Value.int 7 212 }, { hash := PyData.keyHash P (Str.ofString "__slots__"), key := Value.str (Str.ofString "__slots__") 217, val := Value.ref 29 }, { hash := PyData.keyHash P (Str.ofString "__init__"), key := Value.str (Str.ofString "__init__") 225, val := Value.ref 36 }, { hash := PyData.keyHash P (Str.ofString "__static_attributes__"), key := Value.str (Str.ofString "__static_attributes__") 229, val := Value.ref 37 }, { hash := PyData.keyHash P (Str.ofString "node"), key := Value.str (Str.ofString "node") 231, val := Value.ref 41 }, { hash := PyData.keyHash P (Str.ofString "npredecessors"), key := Value.str (Str.ofString "npredecessors") 233, val := Value.ref 42 }, { hash := PyData.keyHash P (Str.ofString "successors"), key := Value.str (Str.ofString "successors") 235, val := Value.ref 43 }, { hash := PyData.keyHash P (Str.ofString "__doc__"), key := Value.str (Str.ofString "__doc__") 236, val := Value.none }] 5 }),
  (40, { cls := Value.type "type", data := Data.cls { name := Str.ofString "_NodeInfo", bases := [Value.type "object"], mro := [Value.ref 40, Value.type "object"], ns := 39, qualname := Str.ofString "_NodeInfo", hasDict := false, slotNames := [Str.ofString "node", Str.ofString "npredecessors", Str.ofString "successors"] }, slots := #[none, none, some (Value.str (Str.ofString "_NodeInfo") 202), some (Value.str (Str.ofString "_NodeInfo") 210), some (Value.builtin "object.__new__"), some (Value.bool false)] }),
  (41, { cls := Value.type "member_descriptor", data := Data.fields #[Value.str (Str.ofString "node") 230, Value.ref 40, Value.builtin "proto.slot", Value.builtin "proto.slot#set", Value.int 2 0] }),
  (42, { cls := Value.type "member_descriptor", data := Data.fields #[Value.str (Str.ofString "npredecessors") 232, Value.ref 40, Value.builtin "proto.slot", Value.builtin "proto.slot#set", Value.int 1 0] }),
  (43, { cls := Value.type "member_descriptor", data := Data.fields #[Value.str (Str.ofString "successors") 234, Value.ref 40, Value.builtin "proto.slot", Value.builtin "proto.slot#set", Value.int 0 0] }),
  (46, { cls := Value.type "tuple", data := Data.seq #[Value.type "ValueError"] }),
  (53, { cls := Value.type "tuple", data := Data.seq #[] }),
  (54, { cls := Value.type "dict", data := Data.dict #[{ hash := PyData.keyHash P (Str.ofString "__module__"), key := Value.str (Str.ofString "__module__") 246, val := Value.str (Str.ofString "cpy313.graphlib") 194 }, { hash := PyData.keyHash P (Str.ofString "__firstlineno__"), key := Value.str (Str.ofString "__firstlineno__") 250, val := Value.int 14 249 }, { hash := PyData.keyHash P (Str.ofString "__static_attributes__"), key := Value.str (Str.ofString "__static_attributes__") 251, val := Value.ref 53 }, { hash := PyData.keyHash P (Str.ofString "__weakref__"), key := Value.str (Str.ofString "__weakref__") 253, val := Value.ref 56 }, { hash := PyData.keyHash P (Str.ofString "__doc__"), key := Value.str (Str.ofString "__doc__") 254, val := Value.none }] 3 }),
  (55, { cls := Value.type "type", data := Data.cls { name := Str.ofString "CycleError", bases := [Value.type "ValueError"], mro := [Value.ref 55, Value.type "ValueError", Value.type "Exception", Value.type "BaseException", Value.type "object"], ns := 54, qualname := Str.ofString "CycleError" }, slots := #[some (Value.ref 46), none, some (Value.str (Str.ofString "CycleError") 239), some (Value.str (Str.ofString "CycleError") 247), some (Value.builtin "ValueError.__new__"), some (Value.bool true)] }),
  (56, { cls := Value.type "getset_descriptor", data := Data.fields #[Value.str (Str.ofString "__weakref__") 252, Value.ref 55, Value.builtin "ExceptionGroup.__weakref__", Value.none] }),
  (66, { cls := Value.type "tuple", data := Data.seq #[Value.none] }),
  (67, { cls := Value.type "tuple", data := Data.seq #[] }),
  (69, { cls := Value.type "tuple", data := Data.seq #[Value.str (Str.ofString "self") 272, Value.str (Str.ofString "graph") 273, Value.str (Str.ofString "node") 274, Value.str (Str.ofString "predecessors") 275] }),
  (70, { cls := Value.type "tuple", data := Data.seq #[] }),
  (72, { cls := Value.type "code", data := Data.fields #[Value.str (Str.ofString "__init__") 269, Value.str (Str.ofString "TopologicalSorter.__init__") 270, Value.str (Str.ofString "/claim/cut.py") 271, Value.int 18 0, Value.int 2 0, Value.int 0 0, Value.int 0 0, Value.int 3 0, Value.ref 67, Value.bool true, Value.int 181 0, Value.ref 68, Value.none, Value.ref 69, Value.ref 70, Value.ref 71, Value.int 276 0, Value.int 18 0, Value.str (Str.ofString "/claim/cut.py") 277] }),
  (73, { cls := Value.type "function", data := Data.func { name := Str.ofString "__init__", qualname := Str.ofString "TopologicalSorter.__init__", params := fnParams (inAt (fnAt PySem.Challenge.pw_nq0219_01 6) 0), body := .stmts (fnBody (inAt (fnAt PySem.Challenge.pw_nq0219_01 6) 0)), scope := fnScope (inAt (fnAt PySem.Challenge.pw_nq0219_01 6) 0), globals := 3, closure := [], defaults := Value.ref 66, kwdefaults := Value.none, pyModule := Value.str (Str.ofString "cpy313.graphlib") 194, code := Value.ref 72 } }),
  (74, { cls := Value.type "tuple", data := Data.seq #[] }),
  (76, { cls := Value.type "tuple", data := Data.seq #[Value.str (Str.ofString "self") 282, Value.str (Str.ofString "node") 283, Value.str (Str.ofString "result") 284] }),
  (77, { cls := Value.type "tuple", data := Data.seq #[] }),
  (79, { cls := Value.type "code", data := Data.fields #[Value.str (Str.ofString "_get_nodeinfo") 279, Value.str (Str.ofString "TopologicalSorter._get_nodeinfo") 280, Value.str (Str.ofString "/claim/cut.py") 281, Value.int 27 0, Value.int 2 0, Value.int 0 0, Value.int 0 0, Value.int 3 0, Value.ref 74, Value.bool true, Value.int 181 0, Value.ref 75, Value.none, Value.ref 76, Value.ref 77, Value.ref 78, Value.int 285 0, Value.int 27 0, Value.str (Str.ofString "/claim/cut.py") 286] }),
  (80, { cls := Value.type "function", data := Data.func { name := Str.ofString "_get_nodeinfo", qualname := Str.ofString "TopologicalSorter._get_nodeinfo", params := fnParams (inAt (fnAt PySem.Challenge.pw_nq0219_01 6) 1), body := .stmts (fnBody (inAt (fnAt PySem.Challenge.pw_nq0219_01 6) 1)), scope := fnScope (inAt (fnAt PySem.Challenge.pw_nq0219_01 6) 1), globals := 3, closure := [], defaults := Value.none, kwdefaults := Value.none, pyModule := Value.str (Str.ofString "cpy313.graphlib") 194, code := Value.ref 79 } }),
  (81, { cls := Value.type "tuple", data := Data.seq #[] }),
  (83, { cls := Value.type "tuple", data := Data.seq #[Value.str (Str.ofString "self") 291, Value.str (Str.ofString "node") 292, Value.str (Str.ofString "predecessors") 293, Value.str (Str.ofString "nodeinfo") 294, Value.str (Str.ofString "pred") 295, Value.str (Str.ofString "pred_info") 296] }),
  (84, { cls := Value.type "tuple", data := Data.seq #[] }),
  (86, { cls := Value.type "code", data := Data.fields #[Value.str (Str.ofString "add") 288, Value.str (Str.ofString "TopologicalSorter.add") 289, Value.str (Str.ofString "/claim/cut.py") 290, Value.int 32 0, Value.int 2 0, Value.int 0 0, Value.int 0 0, Value.int 7 0, Value.ref 81, Value.bool true, Value.int 181 0, Value.ref 82, Value.none, Value.ref 83, Value.ref 84, Value.ref 85, Value.int 297 0, Value.int 32 0, Value.str (Str.ofString "/claim/cut.py") 298] }),
  (87, { cls := Value.type "function", data := Data.func { name := Str.ofString "add", qualname := Str.ofString "TopologicalSorter.add", params := fnParams (inAt (fnAt PySem.Challenge.pw_nq0219_01 6) 2), body := .stmts (fnBody (inAt (fnAt PySem.Challenge.pw_nq0219_01 6) 2)), scope := fnScope (inAt (fnAt PySem.Challenge.pw_nq0219_01 6) 2), globals := 3, closure := [], defaults := Value.none, kwdefaults := Value.none, pyModule := Value.str (Str.ofString "cpy313.graphlib") 194, code := Value.ref 86 } }),
  (88, { cls := Value.type "tuple", data := Data.seq #[] }),
  (91, { cls := Value.type "code", data := Data.fields #[Value.str (Str.ofString "prepare") 300, Value.str (Str.ofString "TopologicalSorter.prepare") 301, Value.str (Str.ofString "/claim/cut.py") 302, Value.int 41 0, Value.int 1 0, Value.int 0 0, Value.int 0 0, Value.int 3 0, Value.ref 88, Value.bool true, Value.int 181 0, Value.ref 89, Value.none, Value.none, Value.none, Value.ref 90, Value.int 303 0, Value.int 41 0, Value.str (Str.ofString "/claim/cut.py") 304] }),
  (92, { cls := Value.type "function", data := Data.func { name := Str.ofString "prepare", qualname := Str.ofString "TopologicalSorter.prepare", params := fnParams (inAt (fnAt PySem.Challenge.pw_nq0219_01 6) 3), body := .stmts (fnBody (inAt (fnAt PySem.Challenge.pw_nq0219_01 6) 3)), scope := fnScope (inAt (fnAt PySem.Challenge.pw_nq0219_01 6) 3), globals := 3, closure := [], defaults := Value.none, kwdefaults := Value.none, pyModule := Value.str (Str.ofString "cpy313.graphlib") 194, code := Value.ref 91 } }),
  (93, { cls := Value.type "tuple", data := Data.seq #[] }),
  (95, { cls := Value.type "tuple", data := Data.seq #[Value.str (Str.ofString "self") 309, Value.str (Str.ofString "result") 310, Value.str (Str.ofString "n2i") 311, Value.str (Str.ofString "node") 312] }),
  (96, { cls := Value.type "tuple", data := Data.seq #[] }),
  (98, { cls := Value.type "code", data := Data.fields #[Value.str (Str.ofString "get_ready") 306, Value.str (Str.ofString "TopologicalSorter.get_ready") 307, Value.str (Str.ofString "/claim/cut.py") 308, Value.int 49 0, Value.int 1 0, Value.int 0 0, Value.int 0 0, Value.int 3 0, Value.ref 93, Value.bool true, Value.int 181 0, Value.ref 94, Value.none, Value.ref 95, Value.ref 96, Value.ref 97, Value.int 313 0, Value.int 49 0, Value.str (Str.ofString "/claim/cut.py") 314] }),
  (99, { cls := Value.type "function", data := Data.func { name := Str.ofString "get_ready", qualname := Str.ofString "TopologicalSorter.get_ready", params := fnParams (inAt (fnAt PySem.Challenge.pw_nq0219_01 6) 4), body := .stmts (fnBody (inAt (fnAt PySem.Challenge.pw_nq0219_01 6) 4)), scope := fnScope (inAt (fnAt PySem.Challenge.pw_nq0219_01 6) 4), globals := 3, closure := [], defaults := Value.none, kwdefaults := Value.none, pyModule := Value.str (Str.ofString "cpy313.graphlib") 194, code := Value.ref 98 } }),
  (100, { cls := Value.type "tuple", data := Data.seq #[] }),
  (102, { cls := Value.type "tuple", data := Data.seq #[Value.str (Str.ofString "self") 319] }),
  (103, { cls := Value.type "tuple", data := Data.seq #[] }),
  (105, { cls := Value.type "code", data := Data.fields #[Value.str (Str.ofString "is_active") 316, Value.str (Str.ofString "TopologicalSorter.is_active") 317, Value.str (Str.ofString "/claim/cut.py") 318, Value.int 60 0, Value.int 1 0, Value.int 0 0, Value.int 0 0, Value.int 3 0, Value.ref 100, Value.bool true, Value.int 181 0, Value.ref 101, Value.none, Value.ref 102, Value.ref 103, Value.ref 104, Value.int 320 0, Value.int 60 0, Value.str (Str.ofString "/claim/cut.py") 321] }),
  (106, { cls := Value.type "function", data := Data.func { name := Str.ofString "is_active", qualname := Str.ofString "TopologicalSorter.is_active", params := fnParams (inAt (fnAt PySem.Challenge.pw_nq0219_01 6) 5), body := .stmts (fnBody (inAt (fnAt PySem.Challenge.pw_nq0219_01 6) 5)), scope := fnScope (inAt (fnAt PySem.Challenge.pw_nq0219_01 6) 5), globals := 3, closure := [], defaults := Value.none, kwdefaults := Value.none, pyModule := Value.str (Str.ofString "cpy313.graphlib") 194, code := Value.ref 105 } }),
  (107, { cls := Value.type "tuple", data := Data.seq #[] }),
  (109, { cls := Value.type "tuple", data := Data.seq #[Value.str (Str.ofString "self") 326] }),
  (110, { cls := Value.type "tuple", data := Data.seq #[] }),
  (112, { cls := Value.type "code", data := Data.fields #[Value.str (Str.ofString "__bool__") 323, Value.str (Str.ofString "TopologicalSorter.__bool__") 324, Value.str (Str.ofString "/claim/cut.py") 325, Value.int 65 0, Value.int 1 0, Value.int 0 0, Value.int 0 0, Value.int 3 0, Value.ref 107, Value.bool true, Value.int 181 0, Value.ref 108, Value.none, Value.ref 109, Value.ref 110, Value.ref 111, Value.int 327 0, Value.int 65 0, Value.str (Str.ofString "/claim/cut.py") 328] }),
  (113, { cls := Value.type "function", data := Data.func { name := Str.ofString "__bool__", qualname := Str.ofString "TopologicalSorter.__bool__", params := fnParams (inAt (fnAt PySem.Challenge.pw_nq0219_01 6) 6), body := .stmts (fnBody (inAt (fnAt PySem.Challenge.pw_nq0219_01 6) 6)), scope := fnScope (inAt (fnAt PySem.Challenge.pw_nq0219_01 6) 6), globals := 3, closure := [], defaults := Value.none, kwdefaults := Value.none, pyModule := Value.str (Str.ofString "cpy313.graphlib") 194, code := Value.ref 112 } }),
  (114, { cls := Value.type "tuple", data := Data.seq #[] }),
  (116, { cls := Value.type "tuple", data := Data.seq #[Value.str (Str.ofString "self") 333, Value.str (Str.ofString "nodes") 334, Value.str (Str.ofString "n2i") 335, Value.str (Str.ofString "node") 336, Value.str (Str.ofString "nodeinfo") 337, Value.str (Str.ofString "stat") 338, Value.str (Str.ofString "successor") 339, Value.str (Str.ofString "successor_info") 340] }),
  (117, { cls := Value.type "tuple", data := Data.seq #[] }),
  (119, { cls := Value.type "code", data := Data.fields #[Value.str (Str.ofString "done") 330, Value.str (Str.ofString "TopologicalSorter.done") 331, Value.str (Str.ofString "/claim/cut.py") 332, Value.int 68 0, Value.int 1 0, Value.int 0 0, Value.int 0 0, Value.int 7 0, Value.ref 114, Value.bool true, Value.int 181 0, Value.ref 115, Value.none, Value.ref 116, Value.ref 117, Value.ref 118, Value.int 341 0, Value.int 68 0, Value.str (Str.ofString "/claim/cut.py") 342] }),
  (120, { cls := Value.type "function", data := Data.func { name := Str.ofString "done", qualname := Str.ofString "TopologicalSorter.done", params := fnParams (inAt (fnAt PySem.Challenge.pw_nq0219_01 6) 7), body := .stmts (fnBody (inAt (fnAt PySem.Challenge.pw_nq0219_01 6) 7)), scope := fnScope (inAt (fnAt PySem.Challenge.pw_nq0219_01 6) 7), globals := 3, closure := [], defaults := Value.none, kwdefaults := Value.none, pyModule := Value.str (Str.ofString "cpy313.graphlib") 194, code := Value.ref 119 } }),
  (121, { cls := Value.type "tuple", data := Data.seq #[] }),
  (123, { cls := Value.type "tuple", data := Data.seq #[Value.str (Str.ofString "self") 347, Value.str (Str.ofString "n2i") 348, Value.str (Str.ofString "stack") 349, Value.str (Str.ofString "itstack") 350, Value.str (Str.ofString "seen") 351, Value.str (Str.ofString "node2stacki") 352, Value.str (Str.ofString "node") 353] }),
  (124, { cls := Value.type "tuple", data := Data.seq #[] }),
  (126, { cls := Value.type "code", data := Data.fields #[Value.str (Str.ofString "_find_cycle") 344, Value.str (Str.ofString "TopologicalSorter._find_cycle") 345, Value.str (Str.ofString "/claim/cut.py") 346, Value.int 91 0, Value.int 1 0, Value.int 0 0, Value.int 0 0, Value.int 3 0, Value.ref 121, Value.bool true, Value.int 181 0, Value.ref 122, Value.none, Value.ref 123, Value.ref 124, Value.ref 125, Value.int 354 0, Value.int 91 0, Value.str (Str.ofString "/claim/cut.py") 355] }),
  (127, { cls := Value.type "function", data := Data.func { name := Str.ofString "_find_cycle", qualname := Str.ofString "TopologicalSorter._find_cycle", params := fnParams (inAt (fnAt PySem.Challenge.pw_nq0219_01 6) 8), body := .stmts (fnBody (inAt (fnAt PySem.Challenge.pw_nq0219_01 6) 8)), scope := fnScope (inAt (fnAt PySem.Challenge.pw_nq0219_01 6) 8), globals := 3, closure := [], defaults := Value.none, kwdefaults := Value.none, pyModule := Value.str (Str.ofString "cpy313.graphlib") 194, code := Value.ref 126 } }),
  (128, { cls := Value.type "tuple", data := Data.seq #[] }),
  (130, { cls := Value.type "tuple", data := Data.seq #[Value.str (Str.ofString "self") 360] }),
  (131, { cls := Value.type "tuple", data := Data.seq #[] }),
  (133, { cls := Value.type "code", data := Data.fields #[Value.str (Str.ofString "static_order") 357, Value.str (Str.ofString "TopologicalSorter.static_order") 358, Value.str (Str.ofString "/claim/cut.py") 359, Value.int 120 0, Value.int 1 0, Value.int 0 0, Value.int 0 0, Value.int 3 0, Value.ref 128, Value.bool true, Value.int 181 0, Value.ref 129, Value.none, Value.ref 130, Value.ref 131, Value.ref 132, Value.int 361 0, Value.int 120 0, Value.str (Str.ofString "/claim/cut.py") 362] }),
  (134, { cls := Value.type "function", data := Data.func { name := Str.ofString "static_order", qualname := Str.ofString "TopologicalSorter.static_order", params := fnParams (inAt (fnAt PySem.Challenge.pw_nq0219_01 6) 9), body := .stmts (fnBody (inAt (fnAt PySem.Challenge.pw_nq0219_01 6) 9)), scope := fnScope (inAt (fnAt PySem.Challenge.pw_nq0219_01 6) 9), globals := 3, closure := [], defaults := Value.none, kwdefaults := Value.none, pyModule := Value.str (Str.ofString "cpy313.graphlib") 194, code := Value.ref 133 } }),
  (135, { cls := Value.type "tuple", data := Data.seq #[Value.str (Str.ofString "_nfinished") 364, Value.str (Str.ofString "_node2info") 365, Value.str (Str.ofString "_npassedout") 366, Value.str (Str.ofString "_ready_nodes") 367] }),
  (136, { cls := Value.type "dict", data := Data.dict #[{ hash := PyData.keyHash P (Str.ofString "__module__"), key := Value.str (Str.ofString "__module__") 264, val := Value.str (Str.ofString "cpy313.graphlib") 194 }, { hash := PyData.keyHash P (Str.ofString "__firstlineno__"), key := Value.str (Str.ofString "__firstlineno__") 268, val := Value.int 16 267 }, { hash := PyData.keyHash P (Str.ofString "__init__"), key := Value.str (Str.ofString "__init__") 278, val := Value.ref 73 }, { hash := PyData.keyHash P (Str.ofString "_get_nodeinfo"), key := Value.str (Str.ofString "_get_nodeinfo") 287, val := Value.ref 80 }, { hash := PyData.keyHash P (Str.ofString "add"), key := Value.str (Str.ofString "add") 299, val := Value.ref 87 }, { hash := PyData.keyHash P (Str.ofString "prepare"), key := Value.str (Str.ofString "prepare") 305, val := Value.ref 92 }, { hash := PyData.keyHash P (Str.ofString "get_ready"), key := Value.str (Str.ofString "get_ready") 315, val := Value.ref 99 }, { hash := PyData.keyHash P (Str.ofString "is_active"), key := Value.str (Str.ofString "is_active") 322, val := Value.ref 106 }, { hash := PyData.keyHash P (Str.ofString "__bool__"), key := Value.str (Str.ofString "__bool__") 329, val := Value.ref 113 }, { hash := PyData.keyHash P (Str.ofString "done"), key := Value.str (Str.ofString "done") 343, val := Value.ref 120 }, { hash := PyData.keyHash P (Str.ofString "_find_cycle"), key := Value.str (Str.ofString "_find_cycle") 356, val := Value.ref 127 }, { hash := PyData.keyHash P (Str.ofString "static_order"), key := Value.str (Str.ofString "static_order") 363, val := Value.ref 134 }, { hash := PyData.keyHash P (Str.ofString "__static_attributes__"), key := Value.str (Str.ofString "__static_attributes__") 368, val := Value.ref 135 }, { hash := PyData.keyHash P (Str.ofString "__dict__"), key := Value.str (Str.ofString "__dict__") 370, val := Value.ref 138 }, { hash := PyData.keyHash P (Str.ofString "__weakref__"), key := Value.str (Str.ofString "__weakref__") 372, val := Value.ref 139 }, { hash := PyData.keyHash P (Str.ofString "__doc__"), key := Value.str (Str.ofString "__doc__") 373, val := Value.none }] 4 }),
  (137, { cls := Value.type "type", data := Data.cls { name := Str.ofString "TopologicalSorter", bases := [Value.type "object"], mro := [Value.ref 137, Value.type "object"], ns := 136, qualname := Str.ofString "TopologicalSorter" }, slots := #[none, none, some (Value.str (Str.ofString "TopologicalSorter") 257), some (Value.str (Str.ofString "TopologicalSorter") 265), some (Value.builtin "object.__new__"), some (Value.bool true)] }),
  (138, { cls := Value.type "getset_descriptor", data := Data.fields #[Value.str (Str.ofString "__dict__") 369, Value.ref 137, Value.builtin "function.__dict__", Value.builtin "function.__dict__#set"] }),
  (139, { cls := Value.type "getset_descriptor", data := Data.fields #[Value.str (Str.ofString "__weakref__") 371, Value.ref 137, Value.builtin "ExceptionGroup.__weakref__", Value.none] }),
  (142, { cls := Value.type "tuple", data := Data.seq #[] }),
  (144, { cls := Value.type "tuple", data := Data.seq #[Value.str (Str.ofString "heap") 381, Value.str (Str.ofString "item") 382] }),
  (145, { cls := Value.type "tuple", data := Data.seq #[] }),
  (147, { cls := Value.type "code", data := Data.fields #[Value.str (Str.ofString "heappush") 378, Value.str (Str.ofString "heappush") 379, Value.str (Str.ofString "/claim/cut.py") 380, Value.int 123 0, Value.int 2 0, Value.int 0 0, Value.int 0 0, Value.int 3 0, Value.ref 142, Value.bool true, Value.int 181 0, Value.ref 143, Value.none, Value.ref 144, Value.ref 145, Value.ref 146, Value.int 383 0, Value.int 123 0, Value.str (Str.ofString "/claim/cut.py") 384] }),
  (148, { cls := Value.type "function", data := Data.func { name := Str.ofString "heappush", qualname := Str.ofString "heappush", params := fnParams (fnAt PySem.Challenge.pw_nq0219_01 8), body := .stmts (fnBody (fnAt PySem.Challenge.pw_nq0219_01 8)), scope := fnScope (fnAt PySem.Challenge.pw_nq0219_01 8), globals := 3, closure := [], defaults := Value.none, kwdefaults := Value.none, pyModule := Value.str (Str.ofString "cpy313.heapq") 376, code := Value.ref 147 } }),
  (149, { cls := Value.type "tuple", data := Data.seq #[] }),
  (151, { cls := Value.type "tuple", data := Data.seq #[Value.str (Str.ofString "heap") 389, Value.str (Str.ofString "lastelt") 390, Value.str (Str.ofString "returnitem") 391] }),
  (152, { cls := Value.type "tuple", data := Data.seq #[] }),
  (154, { cls := Value.type "code", data := Data.fields #[Value.str (Str.ofString "heappop") 386, Value.str (Str.ofString "heappop") 387, Value.str (Str.ofString "/claim/cut.py") 388, Value.int 126 0, Value.int 1 0, Value.int 0 0, Value.int 0 0, Value.int 3 0, Value.ref 149, Value.bool true, Value.int 181 0, Value.ref 150, Value.none, Value.ref 151, Value.ref 152, Value.ref 153, Value.int 392 0, Value.int 126 0, Value.str (Str.ofString "/claim/cut.py") 393] }),
  (155, { cls := Value.type "function", data := Data.func { name := Str.ofString "heappop", qualname := Str.ofString "heappop", params := fnParams (fnAt PySem.Challenge.pw_nq0219_01 9), body := .stmts (fnBody (fnAt PySem.Challenge.pw_nq0219_01 9)), scope := fnScope (fnAt PySem.Challenge.pw_nq0219_01 9), globals := 3, closure := [], defaults := Value.none, kwdefaults := Value.none, pyModule := Value.str (Str.ofString "cpy313.heapq") 376, code := Value.ref 154 } }),
  (156, { cls := Value.type "tuple", data := Data.seq #[] }),
  (158, { cls := Value.type "tuple", data := Data.seq #[Value.str (Str.ofString "x") 398, Value.str (Str.ofString "n") 399, Value.str (Str.ofString "i") 400] }),
  (159, { cls := Value.type "tuple", data := Data.seq #[] }),
  (161, { cls := Value.type "code", data := Data.fields #[Value.str (Str.ofString "heapify") 395, Value.str (Str.ofString "heapify") 396, Value.str (Str.ofString "/claim/cut.py") 397, Value.int 134 0, Value.int 1 0, Value.int 0 0, Value.int 0 0, Value.int 3 0, Value.ref 156, Value.bool true, Value.int 181 0, Value.ref 157, Value.none, Value.ref 158, Value.ref 159, Value.ref 160, Value.int 401 0, Value.int 134 0, Value.str (Str.ofString "/claim/cut.py") 402] }),
  (162, { cls := Value.type "function", data := Data.func { name := Str.ofString "heapify", qualname := Str.ofString "heapify", params := fnParams (fnAt PySem.Challenge.pw_nq0219_01 10), body := .stmts (fnBody (fnAt PySem.Challenge.pw_nq0219_01 10)), scope := fnScope (fnAt PySem.Challenge.pw_nq0219_01 10), globals := 3, closure := [], defaults := Value.none, kwdefaults := Value.none, pyModule := Value.str (Str.ofString "cpy313.heapq") 376, code := Value.ref 161 } }),
  (163, { cls := Value.type "tuple", data := Data.seq #[] }),
  (165, { cls := Value.type "tuple", data := Data.seq #[Value.str (Str.ofString "heap") 407, Value.str (Str.ofString "startpos") 408, Value.str (Str.ofString "pos") 409, Value.str (Str.ofString "newitem") 410, Value.str (Str.ofString "parentpos") 411, Value.str (Str.ofString "parent") 412] }),
  (166, { cls := Value.type "tuple", data := Data.seq #[] }),
  (168, { cls := Value.type "code", data := Data.fields #[Value.str (Str.ofString "_siftdown") 404, Value.str (Str.ofString "_siftdown") 405, Value.str (Str.ofString "/claim/cut.py") 406, Value.int 138 0, Value.int 3 0, Value.int 0 0, Value.int 0 0, Value.int 3 0, Value.ref 163, Value.bool true, Value.int 181 0, Value.ref 164, Value.none, Value.ref 165, Value.ref 166, Value.ref 167, Value.int 413 0, Value.int 138 0, Value.str (Str.ofString "/claim/cut.py") 414] }),
  (169, { cls := Value.type "function", data := Data.func { name := Str.ofString "_siftdown", qualname := Str.ofString "_siftdown", params := fnParams (fnAt PySem.Challenge.pw_nq0219_01 11), body := .stmts (fnBody (fnAt PySem.Challenge.pw_nq0219_01 11)), scope := fnScope (fnAt PySem.Challenge.pw_nq0219_01 11), globals := 3, closure := [], defaults := Value.none, kwdefaults := Value.none, pyModule := Value.str (Str.ofString "cpy313.heapq") 376, code := Value.ref 168 } }),
  (170, { cls := Value.type "tuple", data := Data.seq #[] }),
  (172, { cls := Value.type "tuple", data := Data.seq #[Value.str (Str.ofString "heap") 419, Value.str (Str.ofString "pos") 420, Value.str (Str.ofString "endpos") 421, Value.str (Str.ofString "startpos") 422, Value.str (Str.ofString "newitem") 423, Value.str (Str.ofString "childpos") 424, Value.str (Str.ofString "rightpos") 425] }),
  (173, { cls := Value.type "tuple", data := Data.seq #[] }),
  (175, { cls := Value.type "code", data := Data.fields #[Value.str (Str.ofString "_siftup") 416, Value.str (Str.ofString "_siftup") 417, Value.str (Str.ofString "/claim/cut.py") 418, Value.int 149 0, Value.int 2 0, Value.int 0 0, Value.int 0 0, Value.int 3 0, Value.ref 170, Value.bool true, Value.int 181 0, Value.ref 171, Value.none, Value.ref 172, Value.ref 173, Value.ref 174, Value.int 426 0, Value.int 149 0, Value.str (Str.ofString "/claim/cut.py") 427] }),
  (176, { cls := Value.type "function", data := Data.func { name := Str.ofString "_siftup", qualname := Str.ofString "_siftup", params := fnParams (fnAt PySem.Challenge.pw_nq0219_01 12), body := .stmts (fnBody (fnAt PySem.Challenge.pw_nq0219_01 12)), scope := fnScope (fnAt PySem.Challenge.pw_nq0219_01 12), globals := 3, closure := [], defaults := Value.none, kwdefaults := Value.none, pyModule := Value.str (Str.ofString "cpy313.heapq") 376, code := Value.ref 175 } }),
  (177, { cls := Value.type "tuple", data := Data.seq #[] }),
  (179, { cls := Value.type "tuple", data := Data.seq #[Value.str (Str.ofString "expected") 434, Value.str (Str.ofString "actual") 435, Value.str (Str.ofString "i") 436, Value.str (Str.ofString "j") 437, Value.str (Str.ofString "missing") 438, Value.str (Str.ofString "unexpected") 439, Value.str (Str.ofString "e") 440, Value.str (Str.ofString "a") 441] }),
  (180, { cls := Value.type "tuple", data := Data.seq #[] }),
  (182, { cls := Value.type "code", data := Data.fields #[Value.str (Str.ofString "sorted_list_difference") 431, Value.str (Str.ofString "sorted_list_difference") 432, Value.str (Str.ofString "/claim/cut.py") 433, Value.int 164 0, Value.int 2 0, Value.int 0 0, Value.int 0 0, Value.int 3 0, Value.ref 177, Value.bool true, Value.int 181 0, Value.ref 178, Value.none, Value.ref 179, Value.ref 180, Value.ref 181, Value.int 442 0, Value.int 164 0, Value.str (Str.ofString "/claim/cut.py") 443] }),
  (183, { cls := Value.type "function", data := Data.func { name := Str.ofString "sorted_list_difference", qualname := Str.ofString "sorted_list_difference", params := fnParams (fnAt PySem.Challenge.pw_nq0219_01 14), body := .stmts (fnBody (fnAt PySem.Challenge.pw_nq0219_01 14)), scope := fnScope (fnAt PySem.Challenge.pw_nq0219_01 14), globals := 3, closure := [], defaults := Value.none, kwdefaults := Value.none, pyModule := Value.str (Str.ofString "cpy313.unittest.util") 429, code := Value.ref 182 } }),
  (184, { cls := Value.type "tuple", data := Data.seq #[] }),
  (186, { cls := Value.type "tuple", data := Data.seq #[Value.str (Str.ofString "rows") 450, Value.str (Str.ofString "whole") 451, Value.str (Str.ofString "row") 452] }),
  (187, { cls := Value.type "tuple", data := Data.seq #[] }),
  (189, { cls := Value.type "code", data := Data.fields #[Value.str (Str.ofString "_law_joined") 447, Value.str (Str.ofString "_law_joined") 448, Value.str (Str.ofString "/claim/cut.py") 449, Value.int 197 0, Value.int 1 0, Value.int 0 0, Value.int 0 0, Value.int 3 0, Value.ref 184, Value.bool true, Value.int 181 0, Value.ref 185, Value.none, Value.ref 186, Value.ref 187, Value.ref 188, Value.int 453 0, Value.int 197 0, Value.str (Str.ofString "/claim/cut.py") 454] }),
  (190, { cls := Value.type "function", data := Data.func { name := Str.ofString "_law_joined", qualname := Str.ofString "_law_joined", params := fnParams (fnAt PySem.Challenge.pw_nq0219_01 16), body := .stmts (fnBody (fnAt PySem.Challenge.pw_nq0219_01 16)), scope := fnScope (fnAt PySem.Challenge.pw_nq0219_01 16), globals := 3, closure := [], defaults := Value.none, kwdefaults := Value.none, pyModule := Value.str (Str.ofString "law_nq0219_01") 445, code := Value.ref 189 } }),
  (191, { cls := Value.type "tuple", data := Data.seq #[] }),
  (194, { cls := Value.type "code", data := Data.fields #[Value.str (Str.ofString "_law_read") 456, Value.str (Str.ofString "_law_read") 457, Value.str (Str.ofString "/claim/cut.py") 458, Value.int 202 0, Value.int 1 0, Value.int 0 0, Value.int 0 0, Value.int 3 0, Value.ref 191, Value.bool true, Value.int 181 0, Value.ref 192, Value.none, Value.none, Value.none, Value.ref 193, Value.int 459 0, Value.int 202 0, Value.str (Str.ofString "/claim/cut.py") 460] }),
  (195, { cls := Value.type "function", data := Data.func { name := Str.ofString "_law_read", qualname := Str.ofString "_law_read", params := fnParams (fnAt PySem.Challenge.pw_nq0219_01 17), body := .stmts (fnBody (fnAt PySem.Challenge.pw_nq0219_01 17)), scope := fnScope (fnAt PySem.Challenge.pw_nq0219_01 17), globals := 3, closure := [], defaults := Value.none, kwdefaults := Value.none, pyModule := Value.str (Str.ofString "law_nq0219_01") 445, code := Value.ref 194 } }),
  (196, { cls := Value.type "tuple", data := Data.seq #[] }),
  (199, { cls := Value.type "code", data := Data.fields #[Value.str (Str.ofString "_law_following") 462, Value.str (Str.ofString "_law_following") 463, Value.str (Str.ofString "/claim/cut.py") 464, Value.int 213 0, Value.int 4 0, Value.int 0 0, Value.int 0 0, Value.int 3 0, Value.ref 196, Value.bool true, Value.int 181 0, Value.ref 197, Value.none, Value.none, Value.none, Value.ref 198, Value.int 465 0, Value.int 213 0, Value.str (Str.ofString "/claim/cut.py") 466] }),
  (200, { cls := Value.type "function", data := Data.func { name := Str.ofString "_law_following", qualname := Str.ofString "_law_following", params := fnParams (fnAt PySem.Challenge.pw_nq0219_01 18), body := .stmts (fnBody (fnAt PySem.Challenge.pw_nq0219_01 18)), scope := fnScope (fnAt PySem.Challenge.pw_nq0219_01 18), globals := 3, closure := [], defaults := Value.none, kwdefaults := Value.none, pyModule := Value.str (Str.ofString "law_nq0219_01") 445, code := Value.ref 199 } }),
  (201, { cls := Value.type "tuple", data := Data.seq #[] }),
  (204, { cls := Value.type "code", data := Data.fields #[Value.str (Str.ofString "_law_switched") 468, Value.str (Str.ofString "_law_switched") 469, Value.str (Str.ofString "/claim/cut.py") 470, Value.int 224 0, Value.int 3 0, Value.int 0 0, Value.int 0 0, Value.int 3 0, Value.ref 201, Value.bool true, Value.int 181 0, Value.ref 202, Value.none, Value.none, Value.none, Value.ref 203, Value.int 471 0, Value.int 224 0, Value.str (Str.ofString "/claim/cut.py") 472] }),
  (205, { cls := Value.type "function", data := Data.func { name := Str.ofString "_law_switched", qualname := Str.ofString "_law_switched", params := fnParams (fnAt PySem.Challenge.pw_nq0219_01 19), body := .stmts (fnBody (fnAt PySem.Challenge.pw_nq0219_01 19)), scope := fnScope (fnAt PySem.Challenge.pw_nq0219_01 19), globals := 3, closure := [], defaults := Value.none, kwdefaults := Value.none, pyModule := Value.str (Str.ofString "law_nq0219_01") 445, code := Value.ref 204 } }),
  (206, { cls := Value.type "tuple", data := Data.seq #[] }),
  (209, { cls := Value.type "code", data := Data.fields #[Value.str (Str.ofString "law") 474, Value.str (Str.ofString "law") 475, Value.str (Str.ofString "/claim/cut.py") 476, Value.int 236 0, Value.int 1 0, Value.int 0 0, Value.int 0 0, Value.int 3 0, Value.ref 206, Value.bool true, Value.int 181 0, Value.ref 207, Value.none, Value.none, Value.none, Value.ref 208, Value.int 477 0, Value.int 236 0, Value.str (Str.ofString "/claim/cut.py") 478] }),
  (210, { cls := Value.type "function", data := Data.func { name := Str.ofString "law", qualname := Str.ofString "law", params := fnParams (fnAt PySem.Challenge.pw_nq0219_01 20), body := .stmts (fnBody (fnAt PySem.Challenge.pw_nq0219_01 20)), scope := fnScope (fnAt PySem.Challenge.pw_nq0219_01 20), globals := 3, closure := [], defaults := Value.none, kwdefaults := Value.none, pyModule := Value.str (Str.ofString "law_nq0219_01") 445, code := Value.ref 209 } })]
noncomputable def as1 : List Addr := [2, 3, 15, 17, 18, 20, 21, 29, 30, 32, 33, 35, 36, 37, 39, 40, 41, 42, 43, 46, 53, 54, 55, 56, 66, 67, 69, 70, 72, 73, 74, 76, 77, 79, 80, 81, 83, 84, 86, 87, 88, 91, 92, 93, 95, 96, 98, 99, 100, 102, 103, 105, 106, 107, 109, 110, 112, 113, 114, 116, 117, 119, 120, 121, 123, 124, 126, 127, 128, 130, 131, 133, 134, 135, 136, 137, 138, 139, 142, 144, 145, 147, 148, 149, 151, 152, 154, 155, 156, 158, 159, 161, 162, 163, 165, 166, 168, 169, 170, 172, 173, 175, 176, 177, 179, 180, 182, 183, 184, 186, 187, 189, 190, 191, 194, 195, 196, 199, 200, 201, 204, 205, 206, 209, 210]

theorem as1_eq : ∀ P, as1 = (K1 P).map (·.1) := fun P => by kernel_rfl
noncomputable def H1 : Hook := kHook K1 as1 as1_eq
/-- the text cut down to what the head looks at -/
noncomputable def q1 : Program := { PySem.Challenge.pw_nq0219_01 with main := { PySem.Challenge.pw_nq0219_01.main with body := [20].filterMap fun i => PySem.Challenge.pw_nq0219_01.main.body[i]? } }
theorem left1 : LeftO (PySem.Challenge.rw_nq0219_01.row.prog) q1 [Str.ofString "_wall", Str.ofString "__name__", Str.ofString "_NODE_OUT", Str.ofString "_NODE_DONE", Str.ofString "_NodeInfo", Str.ofString "CycleError", Str.ofString "TopologicalSorter", Str.ofString "heappush", Str.ofString "heappop", Str.ofString "heapify", Str.ofString "_siftdown", Str.ofString "_siftup", Str.ofString "sorted_list_difference", Str.ofString "_law_joined", Str.ofString "_law_read", Str.ofString "_law_following", Str.ofString "_law_switched"] (fun s => xlAt q1 [] s && recOk (RowW.records PySem.Challenge.rw_nq0219_01.row.toRowW) s) (Hook.obs H1) (Hook.val H1) 3200 := by
  intro w
  kernel_rfl
noncomputable def d1 : DefRec × List (Str × Expr) := (defOf q1 PySem.Challenge.rw_nq0219_01.row.name).getD (⟨PySem.Challenge.rw_nq0219_01.row.name, fnParams (fnAt PySem.Challenge.pw_nq0219_01 0), [], fnScope (fnAt PySem.Challenge.pw_nq0219_01 0), ⟨0, 0, 0, 0⟩⟩, [])
theorem said1 : PySem.Challenge.rw_nq0219_01.wellSaid = true := by kernel_rfl
theorem hd1 (walk : WalkO q1 [Str.ofString "_wall", Str.ofString "__name__", Str.ofString "_NODE_OUT", Str.ofString "_NODE_DONE", Str.ofString "_NodeInfo", Str.ofString "CycleError", Str.ofString "TopologicalSorter", Str.ofString "heappush", Str.ofString "heappop", Str.ofString "heapify", Str.ofString "_siftdown", Str.ofString "_siftup", Str.ofString "sorted_list_difference", Str.ofString "_law_joined", Str.ofString "_law_read", Str.ofString "_law_following", Str.ofString "_law_switched"] (XL q1 []) (Hook.says H1) PySem.Challenge.rw_nq0219_01.row.toRowW d1.1 d1.2 fun f vs => PySem.call f vs) : PySem.Challenge.rw_nq0219_01.Holds := by
  refine holds_law said1 fun said => ?_
  refine holds_open (q := q1) (loose := [Str.ofString "_wall", Str.ofString "__name__", Str.ofString "_NODE_OUT", Str.ofString "_NODE_DONE", Str.ofString "_NodeInfo", Str.ofString "CycleError", Str.ofString "TopologicalSorter", Str.ofString "heappush", Str.ofString "heappop", Str.ofString "heapify", Str.ofString "_siftdown", Str.ofString "_siftup", Str.ofString "sorted_list_difference", Str.ofString "_law_joined", Str.ofString "_law_read", Str.ofString "_law_following", Str.ofString "_law_switched"]) (Xt := fun s => xlAt q1 [] s && recOk (RowW.records PySem.Challenge.rw_nq0219_01.row.toRowW) s) (XP := XL q1 []) (Yf := Hook.obs H1) (Ya := Hook.val H1) (YP := Hook.says H1) (N := 3200) left1 (Hook.of H1) (Hook.keeps H1) (fun s e => xl_of s (Bool.and_eq_true_iff.mp e).1) XL.keeps (d := d1.1) (kwd := d1.2) ?h1 ?h2 ?h3 (fun s e => recFacts_of (Bool.and_eq_true_iff.mp e).2) (by rfl) said (by decide +kernel) ⟨rfl, rfl, rfl, rfl, rfl, by decide +kernel⟩ ?hw walk
  case h1 => kernel_rfl
  case h2 => kernel_rfl
  case h3 => kernel_rfl
  case hw => w_witness2
end Mine
end
noncomputable section
open PySem PySem.W PyProof.Rows PySem.Calls PySem.SeqAt
set_option Elab.async false
set_option linter.unusedVariables false
set_option maxRecDepth 100000
set_option maxHeartbeats 4000000
namespace Mine
def ad1 : Ad := { heappush := 148, heappop := 155, heapify := 162, siftdown := 169, siftup := 176, sld := 183, CT := 137, CN := 40, initT := 73, initN := 36, get := 80, add := 87, prep := 92, ready := 99, active := 106, done := 120, cyc := 127, dNode := 41, dNp := 42, dSucc := 43, joined := 190, read := 195, following := 200, switched := 205, lparents := 0, marked := 0, listed := 0, reached := 0, due := 0, tOut := 197, tDone := 200 }
section
variable {P : Params} {a : Addr} {is : List Int}
theorem facts1 : Facts (topS (K1 P) a is) ad1 := by
  constructor
  all_goals first
    | exact rfl
    | (intro x; kernel_rfl)
    | kernel_rfl
    | (constructor <;> kernel_rfl)

theorem b1 {fd : FuncData} {n1 : Str} (h : ∀ (S : Setting) (x : Value), peek (K1 P) S (bindArgs fd ⟨[x], []⟩) = some [(n1, x)]) (s : Shared) (xs : List Value) (X : (K1 P).In s.heap) (hl : xs.length = 1) : BindsTo s fd ⟨xs, []⟩ ([n1].zip xs) := by
  obtain ⟨x, rfl⟩ := List.length_eq_one_iff.mp hl
  exact kp_binds X fun S => h S x
theorem b2 {fd : FuncData} {n1 n2 : Str} (h : ∀ (S : Setting) (x y : Value), peek (K1 P) S (bindArgs fd ⟨[x, y], []⟩) = some [(n1, x), (n2, y)]) (s : Shared) (xs : List Value) (X : (K1 P).In s.heap) (hl : xs.length = 2) : BindsTo s fd ⟨xs, []⟩ ([n1, n2].zip xs) := by
  obtain ⟨x, xs, rfl⟩ := List.exists_cons_of_length_eq_add_one hl
  replace hl := Nat.succ.inj hl
  obtain ⟨y, rfl⟩ := List.length_eq_one_iff.mp hl
  exact kp_binds X fun S => h S x y
theorem b3 {fd : FuncData} {n1 n2 n3 : Str} (h : ∀ (S : Setting) (x y z : Value), peek (K1 P) S (bindArgs fd ⟨[x, y, z], []⟩) = some [(n1, x), (n2, y), (n3, z)]) (s : Shared) (xs : List Value) (X : (K1 P).In s.heap) (hl : xs.length = 3) : BindsTo s fd ⟨xs, []⟩ ([n1, n2, n3].zip xs) := by
  obtain ⟨x, xs, rfl⟩ := List.exists_cons_of_length_eq_add_one hl
  replace hl := Nat.succ.inj hl
  obtain ⟨y, xs, rfl⟩ := List.exists_cons_of_length_eq_add_one hl
  replace hl := Nat.succ.inj hl
  obtain ⟨z, rfl⟩ := List.length_eq_one_iff.mp hl
  exact kp_binds X fun S => h S x y z
theorem b4 {fd : FuncData} {n1 n2 n3 n4 : Str} (h : ∀ (S : Setting) (x y z u : Value), peek (K1 P) S (bindArgs fd ⟨[x, y, z, u], []⟩) = some [(n1, x), (n2, y), (n3, z), (n4, u)]) (s : Shared) (xs : List Value) (X : (K1 P).In s.heap) (hl : xs.length = 4) : BindsTo s fd ⟨xs, []⟩ ([n1, n2, n3, n4].zip xs) := by
  obtain ⟨x, xs, rfl⟩ := List.exists_cons_of_length_eq_add_one hl
  replace hl := Nat.succ.inj hl
  obtain ⟨y, xs, rfl⟩ := List.exists_cons_of_length_eq_add_one hl
  replace hl := Nat.succ.inj hl
  obtain ⟨z, xs, rfl⟩ := List.exists_cons_of_length_eq_add_one hl
  replace hl := Nat.succ.inj hl
  obtain ⟨u, rfl⟩ := List.length_eq_one_iff.mp hl
  exact kp_binds X fun S => h S x y z u
theorem factsL1 : FactsL (topS (K1 P) a is) ad1 := by
  constructor
  case toFacts => exact facts1
  all_goals first
    | exact ⟨_, _, ⟨rfl, rfl, rfl, rfl, rfl, rfl, rfl, by kernel_rfl, rfl, rfl, rfl, by decide +kernel, by decide +kernel⟩, rfl, rfl⟩
    | exact ⟨_, _, ⟨rfl, rfl, rfl, rfl, rfl, rfl, rfl, by kernel_rfl, rfl, rfl, rfl, by decide +kernel, by decide +kernel⟩, b2 fun _ _ _ => rfl⟩
    | exact ⟨_, _, ⟨rfl, rfl, rfl, rfl, rfl, rfl, rfl, by kernel_rfl, rfl, rfl, rfl, by decide +kernel, by decide +kernel⟩, b1 fun _ _ => rfl⟩
    | exact ⟨_, _, ⟨rfl, rfl, rfl, rfl, rfl, rfl, rfl, by kernel_rfl, rfl, rfl, rfl, by decide +kernel, by decide +kernel⟩, b3 fun _ _ _ _ => rfl⟩
    | exact ⟨_, _, ⟨rfl, rfl, rfl, rfl, rfl, rfl, rfl, by kernel_rfl, rfl, rfl, rfl, by decide +kernel, by decide +kernel⟩, b4 fun _ _ _ _ _ => rfl⟩
    | exact rfl
    | kernel_rfl
theorem fnLaw1 : FnB (topS (K1 P) a is) 210 (fnAt PySem.Challenge.pw_nq0219_01 20) ["script"] :=
  ⟨_, _, ⟨rfl, rfl, rfl, rfl, rfl, rfl, rfl, by kernel_rfl, rfl, rfl, rfl, by decide +kernel, by decide +kernel⟩, b1 fun _ _ => rfl⟩
end
/-- what is left of the claim: the law's transformer -/
def Pure01 : Prop := ∀ (ad : Ad) (sa : Addr) (si : List Int), B_law ad sa si (fun f _ => f = .ret (.bool true)) noE ⟨bindLoc [("script", .raw (.ref sa))] fun _ => none, fun _ => none⟩
theorem run1 {w : World} {prog : Program} {s : Shared} {p : Program} {loose : List Str} {mean : ExcName → Option Value} {mg mb : Str → Option Value} {sa : Addr} {si : List Int} {items : List Value} (hp : Pure01) (X : (K1 w.params).In s.heap) (T : Top p loose mean mg mb s.heap) (hs : importsNone p = true) (hL : s.heap.IsList sa items.toArray) (hI : IntsAre items si) (hz : items.length ≤ sizeLine) :
    codeAny (model prog w) callerA (.call (.ref 210) ⟨[.ref sa], []⟩) (fun r s' => r = .ok (.ret (.bool true)) ∧ (∀ b o, s.heap.get? b = some o → s'.heap.get? b = some o) ∧ s'.os = s.os ∧ s'.gens = s.gens) s := by
  obtain ⟨o, fd, H, h1⟩ := fnLaw1 (P := w.params) (a := sa) (is := si)
  exact top_go H h1 (by kernel_rfl) (topF_of X T hs hL hI hz) (fun A L q cd hh => Q_law (n := 1) factsL1 hh rfl) (hp ad1 sa si)
theorem hold1 (hp : Pure01) : PySem.Challenge.rw_nq0219_01.Holds := hd1 (by
  intro w s₀ s₁ mg mb G Y fa o pm cd doc dV kV ho hd hcd hD hmg hg args vals as hpre hlay hrd hwl hlo
  have KX : (K1 w.params).In _ := Y
  refine Ground.open G ?_
  intro T B D TE TW
  clear D TE TW hd hcd hD G Y
  wrow_args hpre hlay hrd hwl hlo
  all_goals (
    have hfa : (Value.ref fa) = .ref 210 := by
      have := mg_of KX T.g (n := Str.ofString "law") (v := .ref 210) (by kernel_rfl)
      have h9 := hmg.symm.trans this
      exact Option.some.inj h9
    rw [hfa]
    refine enter_call (codeAny_mono (run1 hp KX T (by kernel_rfl) (by assumption) (by assumption) ?_) fun r s' z => ?_)
    · have h1 := IntsAre.length (by assumption)
      have : 63 ≤ sizeLine := by decide
      omega
    · obtain ⟨rfl, z1, z2, z3⟩ := z
      refine GoodW.toG ⟨.inl ⟨.bool true, ofPy (PyData.bool true), [], rfl, ?_, ?_, ?_, fun _ => ⟨List.nodup_nil, fun _ h => (nomatch h)⟩⟩, z1, z2, z3.trans hg⟩
      · intro cls; first | rfl | kernel_rfl
      · first | exact .py .bool | exact .bool | constructor
      · first | rfl | kernel_rfl))
end Mine
end
noncomputable section
open PySem
set_option linter.unusedVariables false
set_option linter.unusedSimpArgs false
namespace Mine
/-- heaps -/
abbrev LH := Nat → Option LO
def upd (τ : LH) (a : Nat) (o : LO) : LH := fun b => if b = a then some o else τ b
abbrev Ext (τ τ' : LH) : Prop := ∀ b o, τ b = some o → τ' b = some o
theorem Ext.rfl' {τ : LH} : Ext τ τ := fun _ _ h => h
theorem Ext.tr {a b c : LH} (h : Ext a b) (k : Ext b c) : Ext a c := fun x o e => k x o (h x o e)
theorem upd_same {τ : LH} {a : Nat} {o : LO} : upd τ a o a = some o := by simp [upd]
theorem upd_ne {τ : LH} {a b : Nat} {o : LO} {v : Option LO} (h : b ≠ a) (k : τ b = v) : upd τ a o b = v := by simp [upd, h, k]
theorem ne_sn {τ : LH} {a b : Nat} {o : LO} (h : τ a = some o) (k : τ b = none) : a ≠ b := fun z => by rw [z, k] at h; cases h
theorem Ext.new {τ : LH} {a : Nat} {o : LO} (h : τ a = none) : Ext τ (upd τ a o) := fun b o' e => upd_ne (ne_sn e h) e
theorem Ext.upd {K τ : LH} {a : Nat} {o : LO} (h : Ext K τ) (k : K a = none) : Ext K (upd τ a o) := fun b o' e => upd_ne (ne_sn e k) (h b o' e)
theorem Ext.none {K τ : LH} {a : Nat} (h : Ext K τ) (k : τ a = none) : K a = none := by
  cases e : K a with
  | none => rfl
  | some o => rw [h a o e] at k; cases k
theorem upd_new {τ : LH} {a b : Nat} {o : LO} {v : LO} (h : τ a = none) (k : τ b = some v) : upd τ a o b = some v := upd_ne (ne_sn k h) k
theorem upd_upd {τ : LH} {a : Nat} {o o' : LO} : upd (upd τ a o) a o' = upd τ a o' := by
  funext b; unfold upd; by_cases z : b = a <;> simp [z]
theorem upd_comm {τ : LH} {a b : Nat} {o o' : LO} (h : a ≠ b) : upd (upd τ a o) b o' = upd (upd τ b o') a o := by
  funext x; unfold upd; by_cases z : x = a
  · subst z; simp [h]
  · by_cases y : x = b
    · subst y; simp [z]
    · simp [z, y]

theorem while_go {test : PTx Bool} {body orelse : PTx LF} {Q : LF → LS → Prop} {E : LX → LS → Prop} {σ : LS} (I : Nat → LS → Prop) (n : Nat) (h0 : I n σ)
    (h : ∀ (P : LS → Prop) n σ, I n σ → (∀ m σ', m < n → I m σ' → P σ') →
      test (fun b σ' => if b = true then body (fun f σ'' => match f with | .next => P σ'' | .cont => P σ'' | .brk => Q .next σ'' | .ret v => Q (.ret v) σ'') E σ' else orelse Q E σ') E σ) :
    pwhile test body orelse Q E σ := by
  intro P step
  induction n using Nat.strongRecOn generalizing σ with
  | ind n ih => exact step σ (h P n σ h0 fun m σ' hm hI => ih m hm hI)

theorem for_go {α : Type} {f : α → LV} {g : LS → Prop} {bind : LV → PTx Unit} {body orelse : PTx LF} {Q : LF → LS → Prop} {E : LX → LS → Prop} {σ : LS} (I : List α → List α → LS → Prop) (xs : List α) (h0 : I [] xs σ)
    (hs : ∀ (P : LS → Prop) pre x rest σ, xs = pre ++ x :: rest → I pre (x :: rest) σ → (∀ σ', I (pre ++ [x]) rest σ' → P σ') →
      g σ ∧ bind (f x) (fun _ σ' => body (fun f σ'' => match f with | .next => P σ'' | .cont => P σ'' | .brk => Q .next σ'' | .ret v => Q (.ret v) σ'') E σ') E σ)
    (hn : ∀ σ, I xs [] σ → g σ ∧ orelse Q E σ) : pforL g bind body orelse (xs.map f) Q E σ := by
  suffices H : ∀ rest pre σ, xs = pre ++ rest → I pre rest σ → pforL g bind body orelse (rest.map f) Q E σ from H xs [] σ rfl h0
  intro rest
  induction rest with
  | nil => intro pre σ e h; simp at e; subst e; exact hn σ h
  | cons x rest ih =>
    intro pre σ e h
    exact hs (pforL g bind body orelse (rest.map f) Q E) pre x rest σ e h fun σ' h' => ih (pre ++ [x]) σ' (by simp [e]) h'

theorem compL_go {α : Type} {f : α → LV} {g : LS → Prop} {bind : LV → PTx Unit} {body : PTx Unit} {Q : Unit → LS → Prop} {E : LX → LS → Prop} {σ : LS} (I : List α → List α → LS → Prop) (xs : List α) (h0 : I [] xs σ)
    (hs : ∀ (P : LS → Prop) pre x rest σ, xs = pre ++ x :: rest → I pre (x :: rest) σ → (∀ σ', I (pre ++ [x]) rest σ' → P σ') → g σ ∧ bind (f x) (fun _ σ' => body (fun _ σ'' => P σ'') E σ') E σ)
    (hn : ∀ σ, I xs [] σ → g σ ∧ Q () σ) : pcompL g bind body (xs.map f) Q E σ := by
  suffices H : ∀ rest pre σ, xs = pre ++ rest → I pre rest σ → pcompL g bind body (rest.map f) Q E σ from H xs [] σ rfl h0
  intro rest
  induction rest with
  | nil => intro pre σ e h; simp at e; subst e; exact hn σ h
  | cons x rest ih =>
    intro pre σ e h
    exact hs (pcompL g bind body (rest.map f) Q E) pre x rest σ e h fun σ' h' => ih (pre ++ [x]) σ' (by simp [e]) h'

/-- locals that agree but for a comprehension's own names -/
abbrev Agree (own : List String) (ℓ ℓ' : String → Option LV) : Prop := ∀ y, own.contains y = false → ℓ' y = ℓ y

/-- a comprehension whose test and item change nothing -/
theorem comp_go {α : Type} {f : α → LV} {xs : List α} {g : LS → Prop} {bind : LV → PTx Unit} {t : PTx Bool} {m : PTx LV} {own : List String} {Q : Unit → LS → Prop} {E : LX → LS → Prop} {ℓ : String → Option LV} {τ : LH} {D : Nat} (c : α → Bool) (e : α → LV)
    (hl : xs.length ≤ cap) (hg : ∀ ℓ' acc, g ⟨ℓ', upd τ D (.list acc)⟩)
    (hb : ∀ x ∈ xs, ∀ acc ℓ', Agree own ℓ ℓ' → ∃ ℓ'', Agree own ℓ ℓ'' ∧ (∀ K : Unit → LS → Prop, K () ⟨ℓ'', upd τ D (.list acc)⟩ → bind (f x) K noE ⟨ℓ', upd τ D (.list acc)⟩) ∧
      (∀ K : Bool → LS → Prop, K (c x) ⟨ℓ'', upd τ D (.list acc)⟩ → t K noE ⟨ℓ'', upd τ D (.list acc)⟩) ∧ (c x = true → ∀ K : LV → LS → Prop, K (e x) ⟨ℓ'', upd τ D (.list acc)⟩ → m K noE ⟨ℓ'', upd τ D (.list acc)⟩))
    (hQ : Q () ⟨ℓ, upd τ D (.list ((xs.filter c).map e))⟩) : pown own (pcompL g bind (pwhen t (pemit m (.ref D))) (xs.map f)) Q E ⟨ℓ, upd τ D (.list [])⟩ := by
  refine compL_go (fun pre _ σ => Agree own ℓ σ.loc ∧ σ.heap = upd τ D (.list ((pre.filter c).map e))) xs ⟨fun y hy => ?_, rfl⟩ ?_ ?_
  · show (if own.contains y = true then none else ℓ y) = ℓ y
    rw [hy]; rfl
  · intro P pre x rest σ he ⟨h1, h2⟩ hP
    obtain ⟨ℓ', τ'⟩ := σ
    simp only at h1 h2
    subst h2
    refine ⟨hg _ _, ?_⟩
    obtain ⟨ℓ'', a1, a2, a3, a4⟩ := hb x (by rw [he]; simp) ((pre.filter c).map e) ℓ' h1
    refine a2 _ (a3 _ ?_)
    cases hc : c x with
    | false =>
      refine hP _ ⟨a1, ?_⟩
      simp [List.filter_append, hc]
    | true =>
      refine a4 hc _ ?_
      show plappend (.ref D) [e x] _ _ _
      rw [plappend]
      refine ⟨_, upd_same, ?_, ?_⟩
      · have h1 := List.length_filter_le c pre
        have h2 : xs.length = pre.length + (rest.length + 1) := by rw [he]; simp
        simp only [List.length_map]; omega
      · refine hP _ ⟨a1, ?_⟩
        show upd (upd τ D _) D _ = _
        rw [upd_upd]
        simp [List.filter_append, hc]
  · intro σ ⟨h1, h2⟩
    obtain ⟨ℓ', τ'⟩ := σ
    simp only at h1 h2
    subst h2
    exact ⟨hg _ _, hQ⟩

section
variable {Q : LV → LS → Prop} {QB : Bool → LS → Prop} {QU : Unit → LS → Prop} {QI : LIt → LS → Prop} {QL : List LV → LS → Prop} {E : LX → LS → Prop} {σ : LS} {a b : Nat} {i j k l : Int} {xs ys vs : List LV} {v : LV} {es : List (Int × LV)} {ep : Nat} {is js : List Int}
theorem get_go {x : String} (h : σ.loc x = some v) (q : Q v σ) : pget x Q noE σ := ⟨v, h, q⟩
theorem lget_go (h : σ.heap a = some (.list xs)) (h0 : 0 ≤ k) (h1 : xs[k.toNat]? = some v) (q : Q v σ) : plget (.ref a) (.int k) Q E σ := ⟨xs, v, h, h0, h1, q⟩
theorem llast_go (h : σ.heap a = some (.list xs)) (h1 : xs.getLast? = some v) (q : Q v σ) : pllast (.ref a) (.int (-1)) Q E σ := ⟨rfl, xs, v, h, h1, q⟩
theorem tget_go (h0 : 0 ≤ k) (h : vs.length ≤ 1000) (h1 : vs[k.toNat]? = some v) (q : Q v σ) : ptget (.tup vs) (.int k) Q E σ := ⟨v, h0, h, h1, q⟩
theorem dget_go (h : σ.heap a = some (.dict es ep)) (h1 : es.lookup k = some v) (q : Q v σ) : pdget (.ref a) (.int k) Q E σ := ⟨es, ep, v, h, h1, q⟩
theorem dset_go (h : σ.heap a = some (.dict es ep)) (h1 : es.length + 1 ≤ cap) (q : ∀ ep', QU () ⟨σ.loc, upd σ.heap a (.dict (dput es k v) ep')⟩) : pdset (.ref a) (.int k) v QU E σ := ⟨es, ep, h, h1, q⟩
theorem ddel_go (h : σ.heap a = some (.dict es ep)) (h1 : (es.lookup k).isSome = true) (q : ∀ ep', QU () ⟨σ.loc, upd σ.heap a (.dict (ddel es k) ep')⟩) : pddel (.ref a) (.int k) QU E σ := ⟨es, ep, h, h1, q⟩
theorem lin_go (h : σ.heap a = some (.list (is.map .int))) (q : QB (is.contains k) σ) : plin (.int k) (.ref a) QB E σ := ⟨is, h, q⟩
theorem lnotin_go (h : σ.heap a = some (.list (is.map .int))) (q : QB (!is.contains k) σ) : plnotin (.int k) (.ref a) QB E σ := ⟨is, h, q⟩
theorem din_go (h : σ.heap a = some (.dict es ep)) (q : QB (es.lookup k).isSome σ) : pdin (.int k) (.ref a) QB E σ := ⟨es, ep, h, q⟩
theorem sin_go {S : Int → Bool} {n : Nat} (h : σ.heap a = some (.set S n)) (q : QB (S k) σ) : psin (.int k) (.ref a) QB E σ := ⟨S, n, h, q⟩
theorem list_go (h : vs.length ≤ cap) (q : ∀ d, σ.heap d = none → Q (.ref d) ⟨σ.loc, upd σ.heap d (.list vs)⟩) : plist vs Q E σ := ⟨h, q⟩
theorem tuple_go (h : vs.length ≤ cap) (q : Q (.tup vs) σ) : ptuple vs Q E σ := ⟨h, q⟩
theorem dict0_go (q : ∀ d, σ.heap d = none → Q (.ref d) ⟨σ.loc, upd σ.heap d (.dict [] 0)⟩) : pdict0 Q E σ := q
theorem leq_go (h : σ.heap a = some (.list (is.map .int))) (h' : σ.heap b = some (.list (js.map .int))) (q : QB (is == js) σ) : pleq (.ref a) (.ref b) QB E σ := ⟨is, js, h, h', q⟩
theorem leq0_go (h : σ.heap a = some (.list xs)) (h' : σ.heap b = some (.list [])) (q : QB xs.isEmpty σ) : pleq0 (.ref a) (.ref b) QB E σ := ⟨xs, h, h', q⟩
theorem from_go (h : σ.heap a = some (.list xs)) (h0 : 0 ≤ k) (q : ∀ d, σ.heap d = none → Q (.ref d) ⟨σ.loc, upd σ.heap d (.list (xs.drop k.toNat))⟩) : pfrom (.ref a) (.int k) Q E σ := ⟨xs, h, h0, q⟩
theorem cat_go (h : σ.heap a = some (.list xs)) (h' : σ.heap b = some (.list ys)) (hl : xs.length + ys.length ≤ cap) (q : ∀ d, σ.heap d = none → Q (.ref d) ⟨σ.loc, upd σ.heap d (.list (xs ++ ys))⟩) : pcat (.ref a) (.ref b) Q E σ := ⟨xs, ys, h, h', hl, q⟩
theorem islist_go (h : σ.heap a = some (.list xs)) (q : QU () σ) : pislist (.ref a) QU E σ := ⟨⟨xs, h⟩, q⟩
theorem isdict_go (h : σ.heap a = some (.dict es ep)) (q : QU () σ) : pisdict (.ref a) QU E σ := ⟨⟨es, ep, h⟩, q⟩
theorem isset_go {S : Int → Bool} {n : Nat} (h : σ.heap a = some (.set S n)) (q : QU () σ) : pisset (.ref a) QU E σ := ⟨⟨S, n, h⟩, q⟩
theorem lappend_go (h : σ.heap a = some (.list xs)) (h1 : xs.length + 1 ≤ cap) (q : Q .none ⟨σ.loc, upd σ.heap a (.list (xs ++ [v]))⟩) : plappend (.ref a) [v] Q E σ := ⟨xs, h, h1, q⟩
theorem lpop_go (h : σ.heap a = some (.list xs)) (h1 : xs.getLast? = some v) (q : Q v ⟨σ.loc, upd σ.heap a (.list xs.dropLast)⟩) : plpop (.ref a) [] Q E σ := ⟨xs, v, h, h1, q⟩
theorem lclear_go (h : σ.heap a = some (.list xs)) (q : Q .none ⟨σ.loc, upd σ.heap a (.list [])⟩) : plclear (.ref a) [] Q E σ := ⟨xs, h, q⟩
theorem lextend_go (h : σ.heap a = some (.list xs)) (h' : σ.heap b = some (.list ys)) (hl : xs.length + ys.length ≤ cap) (q : Q .none ⟨σ.loc, upd σ.heap a (.list (xs ++ ys))⟩) : plextend (.ref a) [.ref b] Q E σ := ⟨xs, ys, h, h', hl, q⟩
theorem lextendT_go (h : σ.heap a = some (.list xs)) (hl : xs.length + ys.length ≤ cap) (q : Q .none ⟨σ.loc, upd σ.heap a (.list (xs ++ ys))⟩) : plextend (.ref a) [.tup ys] Q E σ := ⟨xs, h, hl, q⟩
theorem lremove_go (h : σ.heap a = some (.list (is.map .int))) (h1 : k ∈ is) (q : Q .none ⟨σ.loc, upd σ.heap a (.list ((is.erase k).map .int))⟩) : plremove (.ref a) [.int k] Q E σ := ⟨is, h, h1, q⟩
theorem dget1_go (h : σ.heap a = some (.dict es ep)) (q : Q ((es.lookup k).getD .none) σ) : pdget1 (.ref a) [.int k] Q E σ := ⟨es, ep, h, q⟩
theorem sadd_go {S : Int → Bool} {n : Nat} (h : σ.heap a = some (.set S n)) (hn : n < 1000) (q : Q .none ⟨σ.loc, upd σ.heap a (.set (fun k' => S k' || decide (k' = k)) (if S k then n else n + 1))⟩) : psadd (.ref a) [.int k] Q E σ := ⟨S, n, h, hn, q⟩
theorem len_go (h : σ.heap a = some (.list xs)) (q : Q (.int xs.length) σ) : plen [.ref a] Q E σ := ⟨xs, h, q⟩
theorem lenT_go (h : vs.length ≤ cap) (q : Q (.int vs.length) σ) : plen [.tup vs] Q E σ := ⟨h, q⟩
theorem sum_go (h : σ.heap a = some (.list (is.map .int))) (q : Q (.int is.sum) σ) : psum [.ref a] Q E σ := ⟨is, h, q⟩
theorem sorted_go (h : σ.heap a = some (.list (is.map .int))) (hl : is.length < 64) (q : ∀ js : List Int, js.Perm is → js.Pairwise (· ≤ ·) → ∀ d, σ.heap d = none → Q (.ref d) ⟨σ.loc, upd σ.heap d (.list (js.map .int))⟩) : psorted [.ref a] Q E σ := ⟨is, h, hl, q⟩
theorem listof_go (h : σ.heap a = some (.list xs)) (q : ∀ d, σ.heap d = none → Q (.ref d) ⟨σ.loc, upd σ.heap d (.list xs)⟩) : plistof [.ref a] Q E σ := ⟨xs, h, q⟩
theorem listofT_go (h : xs.length ≤ cap) (q : ∀ d, σ.heap d = none → Q (.ref d) ⟨σ.loc, upd σ.heap d (.list xs)⟩) : plistof [.tup xs] Q E σ := ⟨h, q⟩
theorem tupof_go (h : σ.heap a = some (.list xs)) (q : Q (.tup xs) σ) : ptupof [.ref a] Q E σ := ⟨xs, h, q⟩
theorem set0_go (q : ∀ d, σ.heap d = none → Q (.ref d) ⟨σ.loc, upd σ.heap d (.set (fun _ => false) 0)⟩) : pset0 [] Q E σ := q
theorem iter_go (h : σ.heap a = some (.list xs)) (q : ∀ d, σ.heap d = none → Q (.ref d) ⟨σ.loc, upd σ.heap d (.iter a 0)⟩) : piter [.ref a] Q E σ := ⟨xs, h, q⟩
theorem nextof_go {l i : Nat} (h : σ.heap a = some (.iter l i)) (q : Q (.nxt a) σ) : pnextof (.ref a) Q E σ := ⟨l, i, h, q⟩
theorem bool_go (h : σ.heap a = some (.list xs)) (q : Q (.bool (!xs.isEmpty)) σ) : pbool [.ref a] Q E σ := ⟨xs, h, q⟩
theorem truth_go (h : σ.heap a = some (.list xs)) (q : QB (!xs.isEmpty) σ) : ptruth (.ref a) QB E σ := ⟨xs, h, q⟩
theorem items_go (h : σ.heap a = some (.list xs)) (q : QI (xs, fun σ => σ.heap a = some (.list xs)) σ) : pitems (.ref a) QI E σ := ⟨xs, h, q⟩
theorem titems_go (h : vs.length ≤ cap) (q : QI (vs, fun _ => True) σ) : ptitems (.tup vs) QI E σ := ⟨h, q⟩
theorem keys_go (h : σ.heap a = some (.dict es ep)) (q : QI (es.map (fun kv => LV.int kv.1), fun σ => σ.heap a = some (.dict es ep)) σ) : pkeys (.ref a) QI E σ := ⟨es, ep, h, q⟩
theorem vals_go (h : σ.heap a = some (.dict es ep)) (q : QI (es.map (fun kv => kv.2), fun σ => σ.heap a = some (.dict es ep)) σ) : pvals (.ref a) QI E σ := ⟨es, ep, h, q⟩
theorem ents_go (h : σ.heap a = some (.dict es ep)) (q : QI (es.map (fun kv => LV.tup [.int kv.1, kv.2]), fun σ => σ.heap a = some (.dict es ep)) σ) : pents (.ref a) QI E σ := ⟨es, ep, h, q⟩
theorem enum_go (h : σ.heap a = some (.list xs)) (q : QI (xs.zipIdx.map (fun vi => LV.tup [.int vi.2, vi.1]), fun σ => σ.heap a = some (.list xs)) σ) : penum (.ref a) QI E σ := ⟨xs, h, q⟩
theorem starT_go (h : vs.length ≤ cap) (q : QL vs σ) : pstar (.tup vs) QL E σ := ⟨h, q⟩
theorem star_go (h : σ.heap a = some (.list xs)) (q : QL xs σ) : pstar (.ref a) QL E σ := ⟨xs, h, q⟩
theorem getD_go {C d : Nat} {x : String} {fs : List (Option LV)} {es : List (String × LV)} (h : σ.heap a = some (.inst C d fs)) (h' : σ.heap d = some (.attrs es)) (hx : es.lookup x = some v) (hp : plain v = true) (q : Q v σ) : pgetD C x (.ref a) Q E σ := ⟨d, fs, es, v, h, h', hx, hp, q⟩
theorem setD_go {C d : Nat} {x : String} {fs : List (Option LV)} {es : List (String × LV)} (h : σ.heap a = some (.inst C d fs)) (h' : σ.heap d = some (.attrs es)) (hl : es.length < 900) (q : QU () ⟨σ.loc, upd σ.heap d (.attrs (fput es x v))⟩) : psetD C x (.ref a) v QU E σ := ⟨d, fs, es, h, h', hl, q⟩
theorem getS_go {C d i : Nat} {fs : List (Option LV)} {es : List (String × LV)} (h : σ.heap a = some (.inst C d fs)) (h' : σ.heap d = some (.attrs es)) (hx : fs[i]? = some (some v)) (hp : plain v = true) (q : Q v σ) : pgetS C i (.ref a) Q E σ := ⟨d, fs, es, v, h, h', hx, hp, q⟩
theorem setS_go {C d i : Nat} {fs : List (Option LV)} {es : List (String × LV)} (h : σ.heap a = some (.inst C d fs)) (h' : σ.heap d = some (.attrs es)) (q : QU () ⟨σ.loc, upd σ.heap a (.inst C d (sput fs i v))⟩) : psetS C i (.ref a) v QU E σ := ⟨d, fs, es, h, h', q⟩
theorem isinst_go {C d : Nat} {x : String} {fs : List (Option LV)} {es : List (String × LV)} (h : σ.heap a = some (.inst C d fs)) (h' : σ.heap d = some (.attrs es)) (hx : es.lookup x = none) (q : QU () σ) : pisinst C x (.ref a) QU E σ := ⟨d, fs, es, h, h', hx, q⟩
theorem nextc_go {l i : Nat} (h : σ.heap a = some (.iter l i)) (h' : σ.heap l = some (.list xs)) (q : match xs[i]? with | some v => Q v (σ.put a (.iter l (i + 1))) | none => E ⟨"StopIteration", false⟩ (σ.del a)) : pnextc (.nxt a) Q E σ := ⟨l, i, xs, h, h', q⟩
theorem item_go (h : σ.heap a = some (.list xs)) (h0 : 0 ≤ k) (h1 : k < 2 ^ 60) (q : match xs[k.toNat]? with | some v => Q v σ | none => E ⟨"IndexError", false⟩ σ) : plitem (.ref a) (.int k) Q E σ := ⟨xs, h, h0, h1, q⟩
theorem if_true' {p q : Prop} {b : Bool} (h : b = true) (k : p) : (if b = true then p else q) := by rw [if_pos h]; exact k
theorem if_false' {p q : Prop} {b : Bool} (h : b = false) (k : q) : (if b = true then p else q) := by rw [if_neg (by simp [h])]; exact k
theorem tup2_go {x y : String} {u w : LV} (q : QU () ((σ.set x u).set y w)) : ptupT [pset x, pset y] (.tup [u, w]) QU E σ := ⟨⟨_, rfl, rfl⟩, q⟩
theorem tup4_go {x y z t : String} {u w u' w' : LV} (q : QU () ((((σ.set x u).set y w).set z u').set t w')) : ptupT [pset x, pset y, pset z, pset t] (.tup [u, w, u', w']) QU E σ := ⟨⟨_, rfl, rfl⟩, q⟩
theorem truthB_go {z : Bool} (q : QB z σ) : ptruth (.bool z) QB E σ := q
theorem truthI_go (q : QB (i != 0) σ) : ptruth (.int i) QB E σ := q
theorem truthN_go (q : QB false σ) : ptruth .none QB E σ := q
theorem lt_go (q : QB (decide (i < j)) σ) : plt (.int i) (.int j) QB E σ := q
theorem ltT_go (q : QB (decide (i < k ∨ (i = k ∧ j < l))) σ) : plt (.tup [.int i, .int j]) (.tup [.int k, .int l]) QB E σ := ⟨i, j, k, l, rfl, rfl, q⟩
theorem gt_go (q : QB (decide (j < i)) σ) : pgt (.int i) (.int j) QB E σ := q
theorem eq_go (q : QB (i == j) σ) : peq (.int i) (.int j) QB E σ := q
theorem ne_go (q : QB (i != j) σ) : pne (.int i) (.int j) QB E σ := q
theorem isNoneN_go (q : QB true σ) : pisNone .none .none QB E σ := q
theorem isNoneR_go (q : QB false σ) : pisNone (.ref a) .none QB E σ := q
theorem isNotNoneN_go (q : QB false σ) : pisNotNone .none .none QB E σ := q
theorem isNotNoneR_go (q : QB true σ) : pisNotNone (.ref a) .none QB E σ := q
theorem add_go (q : Q (.int (i + j)) σ) : padd (.int i) (.int j) Q E σ := q
theorem sub_go (q : Q (.int (i - j)) σ) : psub (.int i) (.int j) Q E σ := q
theorem neg_go (q : Q (.int (-i)) σ) : pneg (.int i) Q E σ := q
theorem mul_go (h : j.natAbs < 2 ^ 60) (q : Q (.int (i * j)) σ) : pmul (.int i) (.int j) Q E σ := ⟨h, q⟩
theorem mod_go (h : j ≠ 0) (q : Q (.int (i.fmod j)) σ) : pmod (.int i) (.int j) Q E σ := ⟨h, q⟩
theorem pow_go (h : 0 ≤ j ∧ j ≤ 1000 ∧ i.natAbs ≤ 16) (q : Q (.int (i ^ j.toNat)) σ) : ppow (.int i) (.int j) Q E σ := ⟨h, q⟩
theorem intof_go (q : Q (.int i) σ) : pintof [.int i] Q E σ := q
theorem range1_go (q : Q (.rng 0 i 1) σ) : prange1 [.int i] Q E σ := q
theorem range3_go (h : k ≠ 0 ∧ k.natAbs < 2 ^ 20) (q : Q (.rng i j k) σ) : prange3 [.int i, .int j, .int k] Q E σ := ⟨i, j, k, rfl, h, q⟩
theorem if_both {p q : Prop} {b : Bool} (h : b = true → p) (k : b = false → q) : (if b = true then p else q) := by
  cases b
  · rw [if_neg (by decide)]; exact k rfl
  · rw [if_pos rfl]; exact h rfl
end
end Mine
end
noncomputable section
open PySem
set_option linter.unusedVariables false
set_option linter.unusedSimpArgs false
namespace Mine
abbrev Pr := Int × Int
def ple (a b : Pr) : Prop := a.1 < b.1 ∨ (a.1 = b.1 ∧ a.2 ≤ b.2)
def plt' (a b : Pr) : Prop := a.1 < b.1 ∨ (a.1 = b.1 ∧ a.2 < b.2)
theorem ple_refl (a : Pr) : ple a a := .inr ⟨rfl, Int.le_refl _⟩
theorem ple_trans {a b c : Pr} (h : ple a b) (k : ple b c) : ple a c := by
  rcases h with h | ⟨h, h'⟩
  · rcases k with k | ⟨k, _⟩
    · exact .inl (Int.lt_trans h k)
    · exact .inl (k ▸ h)
  · rcases k with k | ⟨k, k'⟩
    · exact .inl (h ▸ k)
    · exact .inr ⟨h.trans k, Int.le_trans h' k'⟩
theorem par_lt {p : Nat} (h : 0 < p) : (p - 1) / 2 < p := Nat.lt_of_le_of_lt (Nat.div_le_self _ _) (Nat.sub_lt h Nat.one_pos)
theorem ple_of_not_lt {a b : Pr} (h : ¬ plt' a b) : ple b a := by unfold ple plt' at *; omega
theorem ple_of_lt {a b : Pr} (h : plt' a b) : ple a b := by unfold ple plt' at *; omega
def tp (p : Pr) : LV := .tup [.int p.1, .int p.2]
def G (ps : List Pr) (i : Nat) : Pr := ps[i]?.getD (0, 0)
def HeapFrom (s : Nat) (ps : List Pr) : Prop := ∀ i, 0 < i → i < ps.length → s ≤ (i - 1) / 2 → ple (G ps ((i - 1) / 2)) (G ps i)
inductive Desc (st : Nat) : Nat → Prop
  | refl : Desc st st
  | left {p : Nat} : Desc st p → Desc st (2 * p + 1)
  | right {p : Nat} : Desc st p → Desc st (2 * p + 2)
theorem Desc.le {st p : Nat} (h : Desc st p) : st ≤ p := by induction h <;> omega
theorem Desc.up {st p : Nat} (h : Desc st p) (hlt : st < p) : Desc st ((p - 1) / 2) := by
  cases h with
  | refl => omega
  | @left q h => rw [show (2 * q + 1 - 1) / 2 = q by omega]; exact h
  | @right q h => rw [show (2 * q + 2 - 1) / 2 = q by omega]; exact h
theorem desc0 (p : Nat) : Desc 0 p := by
  induction p using Nat.strongRecOn with
  | ind p ih =>
    rcases Nat.eq_zero_or_pos p with rfl | hp
    · exact .refl
    · rcases Nat.mod_two_eq_zero_or_one p with h | h
      · have := (ih ((p - 2) / 2) (by omega)).right
        rwa [show 2 * ((p - 2) / 2) + 2 = p by omega] at this
      · have := (ih ((p - 1) / 2) (by omega)).left
        rwa [show 2 * ((p - 1) / 2) + 1 = p by omega] at this


theorem G_set (ps : List Pr) (i j : Nat) (v : Pr) (h : i < ps.length) : G (ps.set i v) j = if j = i then v else G ps j := by
  unfold G
  rw [List.getElem?_set]
  by_cases e : i = j
  · subst e; simp [h]
  · rw [if_neg e, if_neg (Ne.symm e)]
theorem G_get {ps : List Pr} {i : Nat} (h : i < ps.length) : ps[i]? = some (G ps i) := by
  unfold G; rw [List.getElem?_eq_getElem h]; rfl

/-- the places that _siftdown goes up by, on the list with its hole filled -/
structure SD (st pos : Nat) (ps : List Pr) : Prop where
  edge : ∀ i, 0 < i → i < ps.length → st ≤ (i - 1) / 2 → i ≠ pos → ple (G ps ((i - 1) / 2)) (G ps i)
  grand : ∀ i, 0 < i → i < ps.length → (i - 1) / 2 = pos → st < pos → ple (G ps ((pos - 1) / 2)) (G ps i)
theorem SD.stop {st pos : Nat} {ps : List Pr} (h : SD st pos ps) (hp : pos ≤ st ∨ ple (G ps ((pos - 1) / 2)) (G ps pos)) : HeapFrom st ps := fun i h0 hl hs => by
  by_cases e : i = pos
  · subst e
    rcases hp with hp | hp
    · omega
    · exact hp
  · exact h.edge i h0 hl hs e
theorem SD.step {st pos : Nat} {ps : List Pr} (h : SD st pos ps) (hd : Desc st pos) (hlt : st < pos) (hp : pos < ps.length) (hc : plt' (G ps pos) (G ps ((pos - 1) / 2))) :
    SD st ((pos - 1) / 2) ((ps.set pos (G ps ((pos - 1) / 2))).set ((pos - 1) / 2) (G ps pos)) := by
  have p0 : 0 < pos := Nat.lt_of_le_of_lt (Nat.zero_le _) hlt
  have hpp : (pos - 1) / 2 < ps.length := Nat.lt_trans (par_lt p0) hp
  have hdu := (hd.up hlt).le
  have hg : ∀ j, G ((ps.set pos (G ps ((pos - 1) / 2))).set ((pos - 1) / 2) (G ps pos)) j = if j = (pos - 1) / 2 then G ps pos else if j = pos then G ps ((pos - 1) / 2) else G ps j := fun j => by
    rw [G_set _ _ _ _ (by simpa using hpp), G_set _ _ _ _ hp]
  constructor
  · intro i h0 hl hs hne
    simp only [List.length_set] at hl
    rw [hg, hg]
    rw [if_neg hne]
    by_cases e : i = pos
    · subst e
      rw [if_pos rfl, if_pos rfl]
      exact ple_of_lt hc
    · rw [if_neg e]
      by_cases e2 : (i - 1) / 2 = (pos - 1) / 2
      · rw [if_pos e2]
        have := h.edge i h0 hl hs e
        rw [e2] at this
        exact ple_trans (ple_of_lt hc) this
      · rw [if_neg e2]
        by_cases e3 : (i - 1) / 2 = pos
        · rw [if_pos e3]; exact h.grand i h0 hl e3 hlt
        · rw [if_neg e3]; exact h.edge i h0 hl hs e
  · intro i h0 hl hi hlt2
    simp only [List.length_set] at hl
    have hpos0 : 0 < (pos - 1) / 2 := Nat.lt_of_le_of_lt (Nat.zero_le _) hlt2
    rw [hg, hg]
    have h1 : ((pos - 1) / 2 - 1) / 2 ≠ (pos - 1) / 2 := Nat.ne_of_lt (par_lt hpos0)
    have h2 : ((pos - 1) / 2 - 1) / 2 ≠ pos := Nat.ne_of_lt (Nat.lt_trans (par_lt hpos0) (par_lt p0))
    rw [if_neg h1, if_neg h2]
    have hi1 : i ≠ (pos - 1) / 2 := fun z => absurd (hi.trans z.symm) (Nat.ne_of_lt (par_lt h0))
    rw [if_neg hi1]
    have up := h.edge ((pos - 1) / 2) hpos0 hpp ((hd.up hlt).up hlt2).le (Nat.ne_of_lt (par_lt p0))
    by_cases e : i = pos
    · rw [if_pos e]; exact up
    · rw [if_neg e]
      have := h.edge i h0 hl (by rw [hi]; exact hdu) e
      rw [hi] at this
      exact ple_trans up this

theorem C_siftdown {ad : Ad} {σ : LS} {h : Nat} {ps : List Pr} {st pos : Nat} {Q : LV → LS → Prop} {E : LX → LS → Prop} (hd : Desc st pos) (hp : pos < ps.length) (hh : σ.heap h = some (.list (ps.map tp))) (hi : SD st pos ps)
    (hQ : ∀ ps', ps'.Perm ps → HeapFrom st ps' → Q .none (σ.put h (.list (ps'.map tp)))) : P_siftdown ad [.ref h, .int st, .int pos] Q E σ := by
  refine ⟨_, rfl, ?_⟩
  simp only [B_siftdown, pseq, pbind, pget, pset, pret]
  refine ⟨_, rfl, _, rfl, ?_⟩
  rw [plget]
  refine ⟨_, _, hh, by omega, by rw [List.getElem?_map, Int.toNat_natCast, G_get hp]; rfl, ?_⟩
  intro P step
  generalize hnew : G ps pos = new
  suffices H : ∀ pos' (qs : List Pr) (σ' : LS), Desc st pos' → pos' < qs.length → SD st pos' (qs.set pos' new) → (qs.set pos' new).Perm ps → σ'.loc "heap" = some (.ref h) → σ'.loc "startpos" = some (.int st) → σ'.loc "pos" = some (.int pos') → σ'.loc "newitem" = some (tp new) →
      σ'.heap = (fun b => if b = h then some (.list (qs.map tp)) else σ.heap b) → P σ' by
    have e : ps.set pos new = ps := by
      rw [← hnew]
      apply List.ext_getElem?
      intro j
      rw [List.getElem?_set]
      split
      · rename_i e; subst e; rw [G_get hp]
      · rfl
    refine H pos ps _ hd hp (by rw [e]; exact hi) (by rw [e]) ?_ ?_ ?_ ?_ ?_
    · rfl
    · rfl
    · rfl
    · rw [← hnew]; rfl
    · funext b; by_cases z : b = h
      · subst z; rw [if_pos rfl]; exact hh
      · rw [if_neg z]; rfl
  have fin : ∀ pos' (qs : List Pr) (σ' : LS), pos' < qs.length → HeapFrom st (qs.set pos' new) → (qs.set pos' new).Perm ps → σ'.heap = (fun b => if b = h then some (.list (qs.map tp)) else σ.heap b) →
      plset (.ref h) (.int pos') (tp new) (fun _ σ'' => Q LV.none { loc := σ.loc, heap := σ''.heap }) noE σ' := by
    intro pos' qs σ' hl' hhp hpm e5
    rw [plset]
    refine ⟨qs.map tp, by rw [e5]; simp, by omega, by simp; omega, ?_⟩
    have := hQ _ hpm hhp
    rw [show (σ.put h (.list ((qs.set pos' new).map tp))) = { loc := σ.loc, heap := (σ'.put h (.list ((qs.map tp).set (pos' : Int).toNat (tp new)))).heap } from ?_] at this
    · exact this
    · simp only [LS.put, e5, Int.toNat_natCast, List.map_set]
      congr 1
      funext b
      by_cases z : b = h <;> simp [z]
  intro pos'
  induction pos' using Nat.strongRecOn with
  | ind pos' ih =>
    intro qs σ' hd' hl' hsd hpm e1 e2 e3 e4 e5
    refine step σ' ?_
    refine ⟨_, e3, _, e2, ?_⟩
    by_cases hlt : st < pos'
    · show (if decide ((st : Int) < (pos' : Int)) = true then _ else _)
      rw [if_pos (by simpa using hlt)]
      refine ⟨_, e3, ?_⟩
      simp only [psub.eq_1, pshr.eq_1, pbind, pret]
      refine ⟨by omega, ?_⟩
      have epar : ((pos' : Int) - 1).fdiv (2 ^ (1 : Int).toNat) = (((pos' - 1) / 2 : Nat) : Int) := by
        rw [show (2 : Int) ^ (1 : Int).toNat = 2 from rfl, Int.fdiv_eq_ediv_of_nonneg _ (by decide)]
        omega
      rw [epar]
      simp only [pset, pget, LS.set]
      refine ⟨_, e1, _, rfl, ?_⟩
      show plget (.ref h) (.int (((pos' - 1) / 2 : Nat) : Int)) _ _ _
      rw [plget]
      have hpl : (pos' - 1) / 2 < qs.length := by omega
      refine ⟨qs.map tp, _, by simp only [e5]; simp, by omega, by rw [List.getElem?_map, Int.toNat_natCast, G_get hpl]; rfl, ?_⟩
      refine ⟨_, e4, _, rfl, ?_⟩
      refine ltT_go (i := new.1) (j := new.2) (k := (G qs ((pos' - 1) / 2)).1) (l := (G qs ((pos' - 1) / 2)).2) ?_
      show (if decide (new.1 < (G qs ((pos' - 1) / 2)).1 ∨ new.1 = (G qs ((pos' - 1) / 2)).1 ∧ new.2 < (G qs ((pos' - 1) / 2)).2) = true then _ else _)
      have gn : G (qs.set pos' new) pos' = new := by rw [G_set _ _ _ _ hl', if_pos rfl]
      have gp : G (qs.set pos' new) ((pos' - 1) / 2) = G qs ((pos' - 1) / 2) := by rw [G_set _ _ _ _ hl', if_neg (by omega)]
      by_cases hc : plt' new (G qs ((pos' - 1) / 2))
      · rw [if_pos (by simpa [plt'] using hc)]
        refine ⟨_, rfl, _, e1, _, e3, ?_⟩
        show plset (.ref h) (.int (pos' : Int)) _ _ _ _
        rw [plset]
        refine ⟨qs.map tp, by simp [LS.set, e5], by omega, by simp; omega, ?_⟩
        refine ⟨_, rfl, ?_⟩
        have hst := hsd.step hd' hlt (by simpa using hl') (by rw [gn, gp]; exact hc)
        rw [gn, gp] at hst
        have e8 : ((qs.set pos' new).set pos' (G qs ((pos' - 1) / 2))).set ((pos' - 1) / 2) new = (qs.set pos' (G qs ((pos' - 1) / 2))).set ((pos' - 1) / 2) new := by rw [List.set_set]
        rw [e8] at hst
        refine ih ((pos' - 1) / 2) (by omega) (qs.set pos' (G qs ((pos' - 1) / 2))) _ (hd'.up hlt) (by simpa using hpl) hst ?_ e1 e2 rfl e4 ?_
        · have h1 : pos' < (qs.set pos' new).length := by simpa using hl'
          have h2 : (pos' - 1) / 2 < (qs.set pos' new).length := by simpa using hpl
          have := List.set_set_perm h1 h2
          refine List.Perm.trans ?_ hpm
          refine List.Perm.trans ?_ this
          have g1 : (qs.set pos' new)[(pos' - 1) / 2] = G qs ((pos' - 1) / 2) := by
            have := G_get h2; rw [List.getElem?_eq_getElem h2] at this; rw [Option.some.inj this, gp]
          have g2 : (qs.set pos' new)[pos'] = new := by simp
          rw [g1, g2, e8]
        · funext b
          simp only [LS.put, LS.set, e5, Int.toNat_natCast, List.map_set]
          by_cases z : b = h <;> simp [z, tp]
      · rw [if_neg (by simpa [plt'] using hc)]
        refine ⟨_, e4, _, e1, _, e3, fin pos' qs _ hl' (hsd.stop (.inr (by rw [gn, gp]; exact ple_of_not_lt hc))) hpm e5⟩
    · show (if decide ((st : Int) < (pos' : Int)) = true then _ else _)
      rw [if_neg (by simpa using hlt)]
      refine ⟨_, e4, _, e1, _, e3, fin pos' qs σ' hl' (hsd.stop (.inl (by omega))) hpm e5⟩
end Mine
end
noncomputable section
open PySem
set_option linter.unusedVariables false
set_option linter.unusedSimpArgs false
namespace Mine
/-- the list that _siftup goes down in, its hole at pos -/
structure SU (st pos : Nat) (qs : List Pr) : Prop where
  edge : ∀ i, 0 < i → i < qs.length → st ≤ (i - 1) / 2 → i ≠ pos → (i - 1) / 2 ≠ pos → ple (G qs ((i - 1) / 2)) (G qs i)
  grand : ∀ i, 0 < i → i < qs.length → (i - 1) / 2 = pos → st < pos → ple (G qs ((pos - 1) / 2)) (G qs i)
theorem SU.step {st pos c : Nat} {qs : List Pr} (h : SU st pos qs) (hd : Desc st pos) (hc : c < qs.length) (hcp : c = 2 * pos + 1 ∨ c = 2 * pos + 2) (hmin : ∀ i, 0 < i → i < qs.length → (i - 1) / 2 = pos → ple (G qs c) (G qs i)) :
    SU st c (qs.set pos (G qs c)) := by
  have hpc : pos < c ∧ (c - 1) / 2 = pos := by
    rcases hcp with rfl | rfl <;> omega
  obtain ⟨hpc, hcd⟩ := hpc
  have hp : pos < qs.length := Nat.lt_trans hpc hc
  have hle := hd.le
  have c0 : 0 < c := Nat.lt_of_le_of_lt (Nat.zero_le _) hpc
  have hg : ∀ j, G (qs.set pos (G qs c)) j = if j = pos then G qs c else G qs j := fun j => G_set _ _ _ _ hp
  constructor
  · intro i h0 hl hs hne hpc
    simp only [List.length_set] at hl
    rw [hg, hg]
    by_cases e : i = pos
    · subst e
      rw [if_pos rfl, if_neg (Nat.ne_of_lt (par_lt h0))]
      exact h.grand c c0 hc hcd (Nat.lt_of_le_of_lt hs (par_lt h0))
    · rw [if_neg e]
      by_cases e2 : (i - 1) / 2 = pos
      · rw [if_pos e2]; exact hmin i h0 hl e2
      · rw [if_neg e2]; exact h.edge i h0 hl hs e e2
  · intro i h0 hl hi hlt
    simp only [List.length_set] at hl
    rw [hg, hg]
    have hip : i ≠ pos := Nat.ne_of_gt (Nat.lt_trans hpc (hi ▸ par_lt h0))
    rw [if_pos hcd, if_neg hip]
    have := h.edge i h0 hl (by rw [hi]; exact Nat.le_of_lt hlt) hip (by rw [hi]; exact Nat.ne_of_gt hpc)
    rw [hi] at this
    exact this
theorem SU.fin {st pos : Nat} {qs : List Pr} {new : Pr} (h : SU st pos qs) (hp : pos < qs.length) (hend : qs.length ≤ 2 * pos + 1) : SD st pos (qs.set pos new) := by
  have hg : ∀ j, G (qs.set pos new) j = if j = pos then new else G qs j := fun j => G_set _ _ _ _ hp
  constructor
  · intro i h0 hl hs hne
    simp only [List.length_set] at hl
    rw [hg, hg, if_neg (by omega), if_neg hne]
    exact h.edge i h0 hl hs hne (by omega)
  · intro i h0 hl hi hlt
    simp only [List.length_set] at hl
    omega

theorem put_back {σ σ' : LS} {h : Nat} {o x : LO} {y : Option LO} (e5 : σ'.heap = fun b => if b = h then y else σ.heap b) : ({ loc := σ.loc, heap := ((σ'.put h x).put h o).heap } : LS) = σ.put h o := by
  simp only [LS.put, e5]
  congr 1
  funext b
  by_cases z : b = h <;> simp [z]
theorem C_siftup {ad : Ad} {σ : LS} {h : Nat} {ps : List Pr} {st : Nat} {Q : LV → LS → Prop} {E : LX → LS → Prop} (hp : st < ps.length) (hsz : ps.length ≤ 1000) (hh : σ.heap h = some (.list (ps.map tp))) (hi : HeapFrom (st + 1) ps)
    (hQ : ∀ ps', ps'.Perm ps → HeapFrom st ps' → Q .none (σ.put h (.list (ps'.map tp)))) : P_siftup ad [.ref h, .int st] Q E σ := by
  refine ⟨_, rfl, ?_⟩
  simp only [B_siftup, pseq, pbind, pget, pset, pret]
  refine ⟨_, rfl, ?_⟩
  show plen [.ref h] _ _ _
  rw [plen]
  refine ⟨_, hh, ?_⟩
  refine ⟨_, rfl, _, rfl, _, rfl, ?_⟩
  show plget (.ref h) (.int st) _ _ _
  rw [plget]
  refine ⟨_, _, hh, by omega, by rw [List.getElem?_map, Int.toNat_natCast, G_get hp]; rfl, ?_⟩
  refine ⟨_, rfl, ?_⟩
  show pmul (.int 2) (.int st) _ _ _
  rw [pmul]
  refine ⟨by omega, ?_⟩
  show pwhile _ _ _ _ _ _
  intro P step
  generalize hnew : G ps st = new
  suffices H : ∀ m pos' (qs : List Pr) (σ' : LS), ps.length - pos' ≤ m → Desc st pos' → pos' < qs.length → qs.length = ps.length → SU st pos' qs → (qs.set pos' new).Perm ps → σ'.loc "heap" = some (.ref h) → σ'.loc "startpos" = some (.int st) → σ'.loc "pos" = some (.int pos') → σ'.loc "newitem" = some (tp new) →
      σ'.loc "endpos" = some (.int ps.length) → σ'.loc "childpos" = some (.int (2 * pos' + 1 : Nat)) → σ'.heap = (fun b => if b = h then some (.list (qs.map tp)) else σ.heap b) → P σ' by
    have e : ps.set st new = ps := by
      rw [← hnew]
      apply List.ext_getElem?
      intro j
      rw [List.getElem?_set]
      split
      · rename_i e; subst e; rw [G_get hp]
      · rfl
    refine H _ st ps _ (Nat.le_refl _) .refl hp rfl ⟨fun i h0 hl hs hne hpc => hi i h0 hl (by omega), fun i h0 hl hi hlt => by omega⟩ (by rw [e]) rfl rfl rfl ?_ ?_ ?_ ?_
    · rw [← hnew]; rfl
    · simp [LS.set]
    · simp [LS.set]
    · funext b; by_cases z : b = h
      · subst z; rw [if_pos rfl]; exact hh
      · rw [if_neg z]; rfl
  intro m
  induction m with
  | zero => intro pos' qs σ' hm hd' hl' hlen; omega
  | succ m ih =>
    intro pos' qs σ' hm hd' hl' hlen hsu hpm e1 e2 e3 e4 e6 e7 e5
    refine step σ' ?_
    refine ⟨_, e7, _, e6, ?_⟩
    by_cases hlt : 2 * pos' + 1 < ps.length
    · show (if decide (((2 * pos' + 1 : Nat) : Int) < (ps.length : Int)) = true then _ else _)
      rw [if_pos (by simp; omega)]
      have turn : ∀ c (σ₂ : LS), c < qs.length → (c = 2 * pos' + 1 ∨ c = 2 * pos' + 2) → (∀ i, 0 < i → i < qs.length → (i - 1) / 2 = pos' → ple (G qs c) (G qs i)) → σ₂.loc "heap" = some (.ref h) → σ₂.loc "startpos" = some (.int st) → σ₂.loc "pos" = some (.int pos') → σ₂.loc "newitem" = some (tp new) →
          σ₂.loc "endpos" = some (.int ps.length) → σ₂.loc "childpos" = some (.int c) → σ₂.heap = σ'.heap → P (((σ₂.put h (.list ((qs.map tp).set pos' (tp (G qs c))))).set "pos" (.int c)).set "childpos" (.int (2 * c + 1 : Nat))) := by
        intro c σ₂ hc hcp hmin f1 f2 f3 f4 f5 f6 f7
        refine ih c (qs.set pos' (G qs c)) _ (by omega) ?_ (by simpa using hc) (by simpa using hlen) (hsu.step hd' hc hcp hmin) ?_ f1 f2 rfl f4 f5 rfl ?_
        · rcases hcp with rfl | rfl
          · exact hd'.left
          · exact hd'.right
        · have h1 : pos' < (qs.set pos' new).length := by simpa using hl'
          have h2 : c < (qs.set pos' new).length := by simpa using hc
          have := List.set_set_perm h1 h2
          refine List.Perm.trans ?_ hpm
          refine List.Perm.trans ?_ this
          have g1 : (qs.set pos' new)[c] = G qs c := by
            have := G_get h2; rw [List.getElem?_eq_getElem h2] at this; rw [Option.some.inj this, G_set _ _ _ _ hl', if_neg (by omega)]
          have g2 : (qs.set pos' new)[pos'] = new := by simp
          rw [g1, g2, List.set_set]
        · funext b
          simp only [LS.put, LS.set, f7, e5, List.map_set]
          by_cases z : b = h <;> simp [z]
      refine ⟨_, e7, ?_⟩
      show (∃ v, _ ∧ _)
      refine ⟨_, rfl, _, e6, ?_⟩
      have e12 : (((2 * pos' + 1 : Nat) : Int) + 1) = ((2 * pos' + 2 : Nat) : Int) := by omega
      rw [e12]
      show (if decide (((2 * pos' + 2 : Nat) : Int) < (ps.length : Int)) = true then _ else _)
      by_cases hr : 2 * pos' + 2 < ps.length
      · rw [if_pos (by simp; omega)]
        refine ⟨_, e1, _, e7, ?_⟩
        rw [plget]
        refine ⟨qs.map tp, _, by simp [LS.set, e5], by omega, by rw [List.getElem?_map, Int.toNat_natCast, G_get (by omega)]; rfl, ?_⟩
        refine ⟨_, e1, _, rfl, ?_⟩
        show plget (.ref h) (.int ((2 * pos' + 2 : Nat) : Int)) _ _ _
        rw [plget]
        refine ⟨qs.map tp, _, by simp [LS.set, e5], by omega, by rw [List.getElem?_map, Int.toNat_natCast, G_get (by omega)]; rfl, ?_⟩
        refine ltT_go (i := (G qs (2 * pos' + 1)).1) (j := (G qs (2 * pos' + 1)).2) (k := (G qs (2 * pos' + 2)).1) (l := (G qs (2 * pos' + 2)).2) ?_
        show (if (!decide ((G qs (2 * pos' + 1)).1 < (G qs (2 * pos' + 2)).1 ∨ (G qs (2 * pos' + 1)).1 = (G qs (2 * pos' + 2)).1 ∧ (G qs (2 * pos' + 1)).2 < (G qs (2 * pos' + 2)).2)) = true then _ else _)
        by_cases hc : plt' (G qs (2 * pos' + 1)) (G qs (2 * pos' + 2))
        · rw [if_neg (fun z => by simp only [Bool.not_eq_true', decide_eq_false_iff_not] at z; exact z hc)]
          refine ⟨_, e1, _, e7, ?_⟩
          show plget (.ref h) (.int ((2 * pos' + 1 : Nat) : Int)) _ _ _
          rw [plget]
          refine ⟨qs.map tp, _, by simp [LS.set, e5], by omega, by rw [List.getElem?_map, Int.toNat_natCast, G_get (by omega)]; rfl, ?_⟩
          refine ⟨_, e1, _, e3, ?_⟩
          show plset (.ref h) (.int (pos' : Int)) _ _ _ _
          rw [plset]
          refine ⟨qs.map tp, by simp [LS.set, e5], by omega, by simp; omega, ?_⟩
          refine ⟨_, e7, _, rfl, ?_⟩
          show pmul (.int 2) (.int ((2 * pos' + 1 : Nat) : Int)) _ _ _
          rw [pmul]
          refine ⟨by omega, ?_⟩
          exact turn (2 * pos' + 1) _ (by omega) (by omega) (fun i h0 hl hi9 => by rcases (show i = 2 * pos' + 1 ∨ i = 2 * pos' + 2 by omega) with rfl | rfl; exact ple_refl _; exact ple_of_lt hc) e1 e2 e3 e4 e6 e7 rfl
        · rw [if_pos (by simp only [Bool.not_eq_true', decide_eq_false_iff_not]; exact hc)]
          refine ⟨_, rfl, ?_⟩
          refine ⟨_, e1, _, rfl, ?_⟩
          show plget (.ref h) (.int ((2 * pos' + 2 : Nat) : Int)) _ _ _
          rw [plget]
          refine ⟨qs.map tp, _, by simp [LS.set, e5], by omega, by rw [List.getElem?_map, Int.toNat_natCast, G_get (by omega)]; rfl, ?_⟩
          refine ⟨_, e1, _, e3, ?_⟩
          show plset (.ref h) (.int (pos' : Int)) _ _ _ _
          rw [plset]
          refine ⟨qs.map tp, by simp [LS.set, e5], by omega, by simp; omega, ?_⟩
          refine ⟨_, rfl, _, rfl, ?_⟩
          show pmul (.int 2) (.int ((2 * pos' + 2 : Nat) : Int)) _ _ _
          rw [pmul]
          refine ⟨by omega, ?_⟩
          exact turn (2 * pos' + 2) _ (by omega) (by omega) (fun i h0 hl hi9 => by rcases (show i = 2 * pos' + 1 ∨ i = 2 * pos' + 2 by omega) with rfl | rfl; exact ple_of_not_lt hc; exact ple_refl _) e1 e2 e3 e4 e6 rfl rfl
      · rw [if_neg (by simp; omega)]
        show (if false = true then _ else _)
        rw [if_neg (by decide)]
        refine ⟨_, e1, _, e7, ?_⟩
        show plget (.ref h) (.int ((2 * pos' + 1 : Nat) : Int)) _ _ _
        rw [plget]
        refine ⟨qs.map tp, _, by simp [LS.set, e5], by omega, by rw [List.getElem?_map, Int.toNat_natCast, G_get (by omega)]; rfl, ?_⟩
        refine ⟨_, e1, _, e3, ?_⟩
        show plset (.ref h) (.int (pos' : Int)) _ _ _ _
        rw [plset]
        refine ⟨qs.map tp, by simp [LS.set, e5], by omega, by simp; omega, ?_⟩
        refine ⟨_, e7, _, rfl, ?_⟩
        show pmul (.int 2) (.int ((2 * pos' + 1 : Nat) : Int)) _ _ _
        rw [pmul]
        refine ⟨by omega, ?_⟩
        exact turn (2 * pos' + 1) _ (by omega) (by omega) (fun i h0 hl hi9 => by rcases (show i = 2 * pos' + 1 by omega) with rfl; exact ple_refl _) e1 e2 e3 e4 e6 e7 rfl
    · show (if decide (((2 * pos' + 1 : Nat) : Int) < (ps.length : Int)) = true then _ else _)
      rw [if_neg (by simp; omega)]
      refine ⟨_, e4, _, e1, _, e3, ?_⟩
      show plset (.ref h) (.int pos') (tp new) _ _ _
      rw [plset]
      refine ⟨qs.map tp, by rw [e5]; simp, by omega, by simp; omega, ?_⟩
      refine ⟨_, e1, _, e2, _, e3, ?_⟩
      refine C_siftdown (ps := qs.set pos' new) hd' (by simpa using hl') ?_ (hsu.fin hl' (by omega)) fun ps' hpm' hhp => ?_
      · simp [LS.put, List.map_set]
      · have := hQ _ (hpm'.trans hpm) hhp
        have e9 : ({ loc := σ.loc, heap := ((σ'.put h (.list ((qs.map tp).set (pos' : Int).toNat (tp new)))).put h (.list (ps'.map tp))).heap } : LS) = σ.put h (.list (ps'.map tp)) := put_back e5
        rw [← e9] at this
        exact this
end Mine
end
noncomputable section
open PySem
set_option linter.unusedVariables false
set_option linter.unusedSimpArgs false
namespace Mine
theorem heap_min {ps : List Pr} (h : HeapFrom 0 ps) : ∀ i, i < ps.length → ple (G ps 0) (G ps i) := by
  intro i
  induction i using Nat.strongRecOn with
  | ind i ih =>
    intro hl
    rcases Nat.eq_zero_or_pos i with rfl | h0
    · exact ple_refl _
    · exact ple_trans (ih ((i - 1) / 2) (by omega) (by omega)) (h i h0 hl (Nat.zero_le _))
theorem G_append {ps : List Pr} {x : Pr} {i : Nat} (h : i < ps.length) : G (ps ++ [x]) i = G ps i := by
  unfold G; rw [List.getElem?_append_left h]
theorem mem_G {ps : List Pr} {q : Pr} (h : q ∈ ps) : ∃ i, i < ps.length ∧ G ps i = q := by
  obtain ⟨i, hi, e⟩ := List.mem_iff_getElem.mp h
  exact ⟨i, hi, by unfold G; rw [List.getElem?_eq_getElem hi, e]; rfl⟩

theorem C_heappush {ad : Ad} {σ : LS} {h : Nat} {ps : List Pr} {x : Pr} {Q : LV → LS → Prop} {E : LX → LS → Prop} (hsz : ps.length < 1000) (hh : σ.heap h = some (.list (ps.map tp))) (hi : HeapFrom 0 ps)
    (hQ : ∀ ps', ps'.Perm (x :: ps) → HeapFrom 0 ps' → Q .none (σ.put h (.list (ps'.map tp)))) : P_heappush ad [.ref h, tp x] Q E σ := by
  refine ⟨_, rfl, ?_⟩
  simp only [B_heappush, pseq, pbind, pget, pset, pret]
  refine ⟨_, rfl, ?_⟩
  show pislist (.ref h) _ _ _
  rw [pislist]
  refine ⟨⟨_, hh⟩, _, rfl, ?_⟩
  show plappend (.ref h) [tp x] _ _ _
  rw [plappend]
  refine ⟨_, hh, by have : 1000 ≤ cap := by decide
                    simp; omega, ?_⟩
  refine ⟨_, rfl, _, rfl, ?_⟩
  show plen [.ref h] _ _ _
  rw [plen]
  refine ⟨ps.map tp ++ [tp x], by simp [LS.put], ?_⟩
  have hl : (((ps.map tp ++ [tp x]).length : Int) - 1) = (ps.length : Int) := by simp
  simp only [psub.eq_1, pret, hl]
  refine C_siftdown (st := 0) (ps := ps ++ [x]) (desc0 _) (by simp) (by simp [LS.put]) ⟨fun i h0 hl hs hne => ?_, fun i h0 hl hi hlt => ?_⟩ fun ps' hpm hhp => ?_
  · simp at hl
    rw [G_append (by omega), G_append (by omega)]
    exact hi i h0 (by omega) (Nat.zero_le _)
  · simp at hl; omega
  · have := hQ ps' (hpm.trans (List.perm_append_comm (l₁ := ps) (l₂ := [x]))) hhp
    have e9 : ({ loc := σ.loc, heap := (((({ loc := bindLoc [("heap", LV.ref h), ("item", tp x)] fun _ => none, heap := σ.heap } : LS).put h (.list (ps.map tp ++ [tp x])))).put h (.list (ps'.map tp))).heap } : LS) = σ.put h (.list (ps'.map tp)) := put_back (y := σ.heap h) (by funext b; by_cases z : b = h <;> simp [z])
    rw [← e9] at this
    exact this

theorem C_heappop {ad : Ad} {σ : LS} {h : Nat} {ps : List Pr} {Q : LV → LS → Prop} {E : LX → LS → Prop} (hne : ps ≠ []) (hsz : ps.length < 1000) (hh : σ.heap h = some (.list (ps.map tp))) (hi : HeapFrom 0 ps)
    (hQ : ∀ p ps', (p :: ps').Perm ps → (∀ q ∈ ps, ple p q) → HeapFrom 0 ps' → Q (tp p) (σ.put h (.list (ps'.map tp)))) : P_heappop ad [.ref h] Q E σ := by
  obtain ⟨init, last, rfl⟩ : ∃ init last, ps = init ++ [last] := ⟨ps.dropLast, ps.getLast hne, (List.dropLast_concat_getLast hne).symm⟩
  have hmin := heap_min hi
  refine ⟨_, rfl, ?_⟩
  simp only [B_heappop, pseq, pbind, pget, pset, pret]
  refine ⟨_, rfl, ?_⟩
  show pislist (.ref h) _ _ _
  rw [pislist]
  refine ⟨⟨_, hh⟩, ?_⟩
  rw [plpop]
  refine ⟨_, tp last, hh, by simp, ?_⟩
  have e1 : ((init ++ [last]).map tp).dropLast = init.map tp := by simp
  rw [e1]
  refine ⟨_, rfl, ?_⟩
  show ptruth (.ref h) _ _ _
  rw [ptruth]
  refine ⟨init.map tp, by simp [LS.set, LS.put], ?_⟩
  cases init with
  | nil =>
    show (if false = true then _ else _)
    rw [if_neg (by decide)]
    refine ⟨_, rfl, ?_⟩
    have := hQ last [] (by simp) (by simp [ple_refl]) (fun i h0 hl => by simp at hl)
    exact this
  | cons first rest =>
    show (if true = true then _ else _)
    rw [if_pos rfl]
    refine ⟨_, rfl, ?_⟩
    show plget (.ref h) (.int 0) _ _ _
    rw [plget]
    refine ⟨((first :: rest).map tp), tp first, by simp [LS.set, LS.put], by decide, by simp, ?_⟩
    refine ⟨_, rfl, _, rfl, ?_⟩
    show plset (.ref h) (.int 0) (tp last) _ _ _
    rw [plset]
    refine ⟨((first :: rest).map tp), by simp [LS.set, LS.put], by decide, by simp, ?_⟩
    refine ⟨_, rfl, ?_⟩
    refine C_siftup (E := noE) (st := 0) (ps := last :: rest) (by simp) (by simp at hsz ⊢; omega) (by simp [LS.put]) ?_ fun ps' hpm hhp => ?_
    · intro i h0 hl hs
      simp at hl
      have g : ∀ j, 0 < j → j < rest.length + 1 → G (last :: rest) j = G (first :: rest ++ [last]) j := fun j hj hjl => by
        unfold G
        rw [List.getElem?_append_left (by simp; omega)]
        cases j with
        | zero => omega
        | succ j => simp
      rw [g i h0 (by omega), g _ (by omega) (by omega)]
      exact hi i h0 (by simp; omega) (Nat.zero_le _)
    · refine ⟨_, rfl, ?_⟩
      have gf : G (first :: rest ++ [last]) 0 = first := by simp [G]
      have := hQ first ps' ?_ ?_ hhp
      · refine Eq.mp (congrArg (Q (tp first)) ?_) this
        simp only [LS.put, LS.set]
        congr 1
        funext b
        by_cases z : b = h <;> simp [z]
      · refine (List.Perm.cons first hpm).trans ?_
        simp
        exact (List.perm_append_comm (l₁ := [last]) (l₂ := rest))
      · intro q hq
        obtain ⟨i, hil, rfl⟩ := mem_G hq
        have := hmin i hil
        rw [gf] at this
        exact this
end Mine
end
noncomputable section
open PySem
set_option linter.unusedVariables false
set_option linter.unusedSimpArgs false
namespace Mine
theorem C_heapify {ad : Ad} {σ : LS} {h : Nat} {ps : List Pr} {Q : LV → LS → Prop} {E : LX → LS → Prop} (hsz : ps.length < 1000) (hh : σ.heap h = some (.list (ps.map tp)))
    (hQ : ∀ ps', ps'.Perm ps → HeapFrom 0 ps' → Q .none (σ.put h (.list (ps'.map tp)))) : P_heapify ad [.ref h] Q E σ := by
  refine ⟨_, rfl, ?_⟩
  simp only [B_heapify, pseq, pbind, pget, pset, pret]
  refine ⟨_, rfl, ?_⟩
  show plen [.ref h] _ _ _
  rw [plen]
  refine ⟨_, hh, ?_⟩
  refine ⟨_, rfl, ?_⟩
  show pdiv (.int ((ps.map tp).length : Int)) (.int 2) _ _ _
  rw [pdiv]
  refine ⟨by decide, ?_⟩
  have e1 : (((ps.map tp).length : Nat) : Int).fdiv 2 = ((ps.length / 2 : Nat) : Int) := by
    rw [Int.fdiv_eq_ediv_of_nonneg _ (by decide)]; simp
  rw [e1]
  show prange1 [.int ((ps.length / 2 : Nat) : Int)] _ _ _
  rw [prange1]
  show prevr (.rng 0 ((ps.length / 2 : Nat) : Int) 1) _ _ _
  rw [prevr]
  refine ⟨⟨rfl, rfl, by omega, by omega⟩, ?_⟩
  rw [Int.toNat_natCast]
  have key : ∀ k (qs : List Pr) (σ' : LS), k ≤ ps.length → qs.Perm ps → HeapFrom k qs → σ'.loc "x" = some (.ref h) → σ'.heap = (fun b => if b = h then some (.list (qs.map tp)) else σ.heap b) →
      pforL (fun _ => True) (pset "i") (pbind (pbind (pbind (pget "x") fun a => pbind (pbind (pget "i") fun a => pbind (pret []) fun as => pret (a :: as)) fun as => pret (a :: as)) (P_siftup ad)) fun _ => pret .next) (pret .next) ((List.range k).map fun (i : Nat) => LV.int (i : Int)).reverse
        (fun fl σ' => match fl with | .ret v => Q v ⟨σ.loc, σ'.heap⟩ | .next => Q .none ⟨σ.loc, σ'.heap⟩ | _ => False) noE σ' := by
    intro k
    induction k with
    | zero =>
      intro qs σ' hk hpm hhp e1 e5
      refine ⟨trivial, ?_⟩
      have := hQ qs hpm hhp
      refine Eq.mp (congrArg (Q .none) ?_) this
      simp only [LS.put, e5]
    | succ k ih =>
      intro qs σ' hk hpm hhp e1 e5
      have hlen := hpm.length_eq
      rw [List.range_succ, List.map_append, List.reverse_append]
      refine ⟨trivial, ?_⟩
      refine ⟨_, e1, _, rfl, ?_⟩
      refine C_siftup (E := noE) (st := k) (ps := qs) (by omega) (by omega) (by simp [LS.set, e5]) hhp fun ps' hpm' hhp' => ?_
      refine ih ps' _ (by omega) (hpm'.trans hpm) hhp' e1 ?_
      funext b
      simp only [LS.put, LS.set, e5]
      by_cases z : b = h <;> simp [z]
  refine key (ps.length / 2) ps _ (by omega) (.refl _) (fun i h0 hl hs => by omega) rfl ?_
  funext b; by_cases z : b = h
  · subst z; rw [if_pos rfl]; exact hh
  · rw [if_neg z]; rfl
end Mine
end
noncomputable section
open PySem
set_option linter.unusedVariables false
set_option linter.unusedSimpArgs false
namespace Mine
def lessL (xs ys : List Int) : List Int := xs.filter fun a => !ys.contains a
structure Mg (xs ys : List Int) (i j : Nat) (mi un : List Int) : Prop where
  mi : mi = lessL (xs.take i) ys
  un : un = lessL (ys.take j) xs
  lt1 : ∀ a ∈ xs.take i, ∀ b ∈ ys.drop j, a < b
  lt2 : ∀ b ∈ ys.take j, ∀ a ∈ xs.drop i, b < a
theorem Mg.start (xs ys : List Int) : Mg xs ys 0 0 [] [] := ⟨rfl, rfl, fun _ h => by simp at h, fun _ h => by simp at h⟩
theorem Mg.swap {xs ys : List Int} {i j : Nat} {mi un : List Int} (h : Mg xs ys i j mi un) : Mg ys xs j i un mi := ⟨h.un, h.mi, h.lt2, h.lt1⟩
theorem mem_take_drop {ys : List Int} {b : Int} (j : Nat) (h : b ∈ ys) : b ∈ ys.take j ∨ b ∈ ys.drop j := by
  rw [← List.take_append_drop j ys] at h; exact List.mem_append.mp h
theorem take_succ' {xs : List Int} {i : Nat} (h : i < xs.length) : xs.take (i + 1) = xs.take i ++ [xs[i]] := by rw [List.take_succ_eq_append_getElem h]
theorem drop_gt {xs : List Int} (hx : xs.Pairwise (· < ·)) {i : Nat} (h : i < xs.length) : ∀ a ∈ xs.drop (i + 1), xs[i] < a := by
  intro a ha
  have := hx.drop (i := i)
  rw [List.drop_eq_getElem_cons h, List.pairwise_cons] at this
  exact this.1 a ha
theorem Mg.lt {xs ys : List Int} {i j : Nat} {mi un : List Int} (h : Mg xs ys i j mi un) (hx : xs.Pairwise (· < ·)) (hy : ys.Pairwise (· < ·)) (hi : i < xs.length) (hj : j < ys.length) (hlt : xs[i] < ys[j]) : Mg xs ys (i + 1) j (mi ++ [xs[i]]) un := by
  have hno : ys.contains xs[i] = false := by
    rw [Bool.eq_false_iff]
    intro hc
    rw [List.contains_iff_mem] at hc
    rcases mem_take_drop j hc with q | q
    · have := h.lt2 _ q xs[i] (by rw [List.drop_eq_getElem_cons hi]; exact .head _); omega
    · rw [List.drop_eq_getElem_cons hj] at q
      rcases List.mem_cons.mp q with q | q
      · omega
      · have := drop_gt hy hj _ q; omega
  refine ⟨?_, h.un, fun a ha b hb => ?_, fun b hb a ha => h.lt2 b hb a (List.mem_of_mem_drop (i := 1) (by rw [List.drop_drop]; exact ha))⟩
  · rw [take_succ' hi, lessL, List.filter_append, ← lessL, ← h.mi]
    simp only [List.filter_cons, List.filter_nil, hno, Bool.not_false, if_true]
  · rw [take_succ' hi] at ha
    rcases List.mem_append.mp ha with q | q
    · exact h.lt1 a q b hb
    · rw [List.mem_singleton.mp q]
      rw [List.drop_eq_getElem_cons hj] at hb
      rcases List.mem_cons.mp hb with z | z
      · rw [z]; exact hlt
      · have := drop_gt hy hj _ z; omega
theorem Mg.eq {xs ys : List Int} {i j : Nat} {mi un : List Int} (h : Mg xs ys i j mi un) (hx : xs.Pairwise (· < ·)) (hy : ys.Pairwise (· < ·)) (hi : i < xs.length) (hj : j < ys.length) (he : xs[i] = ys[j]) : Mg xs ys (i + 1) (j + 1) mi un := by
  have c1 : ys.contains xs[i] = true := by rw [he, List.contains_iff_mem]; exact List.getElem_mem hj
  have c2 : xs.contains ys[j] = true := by rw [← he, List.contains_iff_mem]; exact List.getElem_mem hi
  refine ⟨?_, ?_, fun a ha b hb => ?_, fun b hb a ha => ?_⟩
  · rw [take_succ' hi, lessL, List.filter_append, ← lessL, ← h.mi]
    simp only [List.filter_cons, List.filter_nil, c1, Bool.not_true, if_false, Bool.false_eq_true, List.append_nil]
  · rw [take_succ' hj, lessL, List.filter_append, ← lessL, ← h.un]
    simp only [List.filter_cons, List.filter_nil, c2, Bool.not_true, if_false, Bool.false_eq_true, List.append_nil]
  · have hb' := drop_gt hy hj b hb
    rw [take_succ' hi] at ha
    rcases List.mem_append.mp ha with q | q
    · exact h.lt1 a q b (List.mem_of_mem_drop (i := 1) (by rw [List.drop_drop]; exact hb))
    · rw [List.mem_singleton.mp q, he]; exact hb'
  · have ha' := drop_gt hx hi a ha
    rw [take_succ' hj] at hb
    rcases List.mem_append.mp hb with q | q
    · exact h.lt2 b q a (List.mem_of_mem_drop (i := 1) (by rw [List.drop_drop]; exact ha))
    · rw [List.mem_singleton.mp q, ← he]; exact ha'
theorem Mg.done {xs ys : List Int} {i j : Nat} {mi un : List Int} (h : Mg xs ys i j mi un) (he : xs.length ≤ i ∨ ys.length ≤ j) : mi ++ xs.drop i = lessL xs ys ∧ un ++ ys.drop j = lessL ys xs := by
  have key : ∀ (xs ys : List Int) (i j : Nat) (mi un : List Int), Mg xs ys i j mi un → (xs.length ≤ i ∨ ys.length ≤ j) → mi ++ xs.drop i = lessL xs ys := by
    intro xs ys i j mi un h he
    have e : lessL xs ys = lessL (xs.take i) ys ++ lessL (xs.drop i) ys := by unfold lessL; rw [← List.filter_append, List.take_append_drop]
    rw [e, ← h.mi]
    congr 1
    unfold lessL
    symm
    rw [List.filter_eq_self]
    intro a ha
    rw [Bool.not_eq_true', Bool.eq_false_iff]
    intro hc
    rw [List.contains_iff_mem] at hc
    rcases he with q | q
    · rw [List.drop_of_length_le q] at ha; simp at ha
    · have : a ∈ ys.take j := by rw [List.take_of_length_le q]; exact hc
      have := h.lt2 a this a ha
      omega
  exact ⟨key xs ys i j mi un h he, key ys xs j i un mi h.swap he.symm⟩
end Mine
end
noncomputable section
open PySem
set_option linter.unusedVariables false
set_option linter.unusedSimpArgs false
namespace Mine
/-- the loops that pass by equal items: here none is -/
theorem inner_go {nl ni ne : String} {body : PTx LF} {K : LF → LS → Prop} {E : LX → LS → Prop} {σ : LS} {x i : Nat} {xs : List Int} {e : Int} (h1 : σ.loc nl = some (.ref x)) (h2 : σ.heap x = some (.list (xs.map .int))) (h3 : σ.loc ni = some (.int i)) (hi : i ≤ 2000) (h4 : σ.loc ne = some (.int e))
    (hne : ∀ h : i < xs.length, xs[i] ≠ e) (q1 : i < xs.length → K .next σ) (q2 : xs.length ≤ i → E ⟨"IndexError", false⟩ σ) :
    pwhile (pbind (pbind (pget nl) fun a => pbind (pget ni) fun b => plitem a b) fun a => pbind (pget ne) fun b => peq a b) body (pret .next) K E σ := by
  intro P step
  refine step σ ?_
  refine ⟨_, h1, _, h3, ?_⟩
  show plitem (.ref x) (.int (i : Int)) _ _ _
  rw [plitem]
  refine ⟨_, h2, by omega, by omega, ?_⟩
  rw [List.getElem?_map, Int.toNat_natCast]
  by_cases hl : i < xs.length
  · rw [List.getElem?_eq_getElem hl]
    refine ⟨_, h4, ?_⟩
    show (if (xs[i] == e) = true then _ else _)
    rw [if_neg (by simpa using hne hl)]
    exact q1 hl
  · rw [List.getElem?_eq_none (by omega)]
    exact q2 (by omega)
theorem inner_goH {nl ni ne : String} {body : PTx LF} {K : LF → LS → Prop} {E : LX → LS → Prop} {σ : LS} {x i : Nat} {xs : List Int} {e : Int} (h1 : σ.loc nl = some (.ref x)) (h2 : σ.heap x = some (.list (xs.map .int))) (h3 : σ.loc ni = some (.int i)) (hi : i ≤ 2000) (h4 : σ.loc ne = some (.int e))
    (hne : ∀ h : i < xs.length, xs[i] ≠ e) (q1 : i < xs.length → K .next σ) (q2 : xs.length ≤ i → E ⟨"IndexError", true⟩ σ) :
    pwhile (pbind (pbind (pget nl) fun a => pbind (pget ni) fun b => plitemH a b) fun a => pbind (pget ne) fun b => peq a b) body (pret .next) K E σ := by
  intro P step
  refine step σ ?_
  refine ⟨_, h1, _, h3, ?_⟩
  show plitemH (.ref x) (.int (i : Int)) _ _ _
  rw [plitemH]
  refine ⟨_, h2, by omega, by omega, ?_⟩
  rw [List.getElem?_map, Int.toNat_natCast]
  by_cases hl : i < xs.length
  · rw [List.getElem?_eq_getElem hl]
    refine ⟨_, h4, ?_⟩
    show (if (xs[i] == e) = true then _ else _)
    rw [if_neg (by simpa using hne hl)]
    exact q1 hl
  · rw [List.getElem?_eq_none (by omega)]
    exact q2 (by omega)
end Mine
end
noncomputable section
open PySem
set_option linter.unusedVariables false
set_option linter.unusedSimpArgs false
namespace Mine
-- PRE (my own short words for the walk: infer_instance = look up the heap; trivial = one step of a transformer)
set_option hygiene false in
local macro_rules | `(tactic| infer_instance) => `(tactic| first
  | assumption
  | exact upd_same
  | exact upd_new (by assumption) (by infer_instance)
  | exact upd_ne (by first | assumption | exact Ne.symm (by assumption)) (by infer_instance)
  | exact hE _ _ (by infer_instance))
set_option hygiene false in
local macro_rules | `(tactic| trivial) => `(tactic| first
  | ((with_reducible apply get_go); (first | rfl | assumption | exact (hℓ _ rfl).trans (by first | rfl | assumption)))
  | ((with_reducible first | apply islist_go | apply isdict_go | apply isset_go | apply len_go | apply lclear_go | apply tupof_go | apply listof_go | apply iter_go | apply nextof_go | apply bool_go | apply truth_go | apply items_go | apply keys_go | apply vals_go | apply ents_go | apply enum_go | apply rev_go | apply star_go | apply lin_go | apply lnotin_go | apply din_go | apply dnotin_go | apply sin_go | apply dget1_go | apply dget2_go | apply sum_go); infer_instance)
  | with_reducible first | apply dict0_go | apply set0_go | apply tup2_go | apply tup4_go | apply truthB_go | apply truthI_go | apply truthN_go | apply lt_go | apply gt_go | apply ge_go | apply eq_go | apply ne_go | apply isNoneN_go | apply isNoneR_go | apply isNotNoneN_go | apply isNotNoneR_go | apply add_go | apply sub_go | apply neg_go | apply or_go | apply intof_go | apply range1_go
  | ((with_reducible first | apply lenT_go | apply titems_go | apply starT_go); assumption)
  | ((with_reducible first | apply leq_go | apply leq0_go | apply setS_go); infer_instance; infer_instance)
  | ((with_reducible first | apply llast_go | apply dget_go); infer_instance; (first | rfl | assumption))
  | ((with_reducible apply lget_go); infer_instance; omega; (first | rfl | assumption))
  | ((with_reducible apply tget_go); omega; simp; (first | rfl | assumption))
  | ((with_reducible first | apply list_go | apply tuple_go); simp [cap])
  | ((with_reducible first | apply from_go | apply upto_go); infer_instance; omega)
  | ((with_reducible first | apply getD_go | apply getS_go); infer_instance; infer_instance; (first | rfl | assumption); (first | rfl | assumption))
  | ((with_reducible apply isinst_go); infer_instance; infer_instance; (first | rfl | assumption))
  | ((with_reducible apply setD_go); infer_instance; infer_instance; exact Nat.le_of_ble_eq_true rfl)
  | ((with_reducible first | apply mul_go | apply div_go | apply mod_go | apply pow_go | apply range3_go); decide)
  | refine if_true' rfl ?_
  | refine if_false' rfl ?_)
section
set_option maxHeartbeats 4000000 in
theorem C_sld {ad : Ad} {σ : LS} {x y : Nat} {xs ys : List Int} {Q : LV → LS → Prop} {E : LX → LS → Prop} (hx : σ.heap x = some (.list (xs.map .int))) (hy : σ.heap y = some (.list (ys.map .int))) (sx : xs.Pairwise (· < ·)) (sy : ys.Pairwise (· < ·)) (lx : xs.length ≤ 1000) (ly : ys.length ≤ 1000)
    (hQ : ∀ m u (τ : LH), σ.heap m = none → σ.heap u = none → m ≠ u → Ext σ.heap τ → τ m = some (.list ((lessL xs ys).map .int)) → τ u = some (.list ((lessL ys xs).map .int)) → Q (.tup [.ref m, .ref u]) ⟨σ.loc, τ⟩) :
    P_sorted_list_difference ad [.ref x, .ref y] Q E σ := by
  refine ⟨_, rfl, ?_⟩
  unfold B_sorted_list_difference
  trivial
  intro m hm
  trivial
  intro u hu
  have hm' : σ.heap m = none := hm
  have hmu : m ≠ u := fun z => by subst z; simp [LS.put, LS.set, upd] at hu
  have hu' : σ.heap u = none := by simpa [LS.put, LS.set, Ne.symm hmu, upd] using hu
  have hxm : x ≠ m := ne_sn hx hm'
  have hxu : x ≠ u := ne_sn hx hu'
  have hym : y ≠ m := ne_sn hy hm'
  have hyu : y ≠ u := ne_sn hy hu'
  have bx : ∀ {k}, k ≤ xs.length → k ≤ 2000 := fun h => by omega
  have by' : ∀ {k}, k ≤ ys.length → k ≤ 2000 := fun h => by omega
  refine while_go (fun n σ' => ∃ i j mi un, xs.length + ys.length - (i + j) = n ∧ i ≤ xs.length ∧ j ≤ ys.length ∧ mi.length ≤ i ∧ un.length ≤ j ∧ Mg xs ys i j mi un ∧ σ'.loc "expected" = some (.ref x) ∧ σ'.loc "actual" = some (.ref y) ∧ σ'.loc "i" = some (.int i) ∧ σ'.loc "j" = some (.int j) ∧ σ'.loc "missing" = some (.ref m) ∧ σ'.loc "unexpected" = some (.ref u) ∧
      σ'.heap = upd (upd σ.heap m (.list (mi.map .int))) u (.list (un.map .int))) _ ⟨0, 0, [], [], rfl, Nat.zero_le _, Nat.zero_le _, Nat.zero_le _, Nat.zero_le _, Mg.start xs ys, rfl, rfl, rfl, rfl, rfl, rfl, rfl⟩ ?_
  rintro P n ⟨ℓ, τ⟩ ⟨i, j, mi, un, hn, hi, hj, hmi, hun, hM, e1, e2, e3, e4, e5, e6, rfl⟩ hP
  simp only at e1 e2 e3 e4 e5 e6
  -- the handler
  have fin : ∀ (i j : Nat) mi un (ℓ : String → Option LV) (Qf : LF → LS → Prop), Mg xs ys i j mi un → mi.length ≤ xs.length → un.length ≤ ys.length → (xs.length ≤ i ∨ ys.length ≤ j) → ℓ "expected" = some (.ref x) → ℓ "actual" = some (.ref y) → ℓ "i" = some (.int i) → ℓ "j" = some (.int j) → ℓ "missing" = some (.ref m) → ℓ "unexpected" = some (.ref u) →
      (∀ ℓ' τ', ℓ' "missing" = some (.ref m) → ℓ' "unexpected" = some (.ref u) → Ext σ.heap τ' → τ' m = some (.list ((lessL xs ys).map .int)) → τ' u = some (.list ((lessL ys xs).map .int)) → Qf .brk ⟨ℓ', τ'⟩) →
      (pseq (pbind (pbind (pget "missing") fun a => pbind (pislist a) fun _ => pbind (pbind (pbind (pget "expected") fun a => pbind (pget "i") fun b => pfrom a b) fun a => pbind (pret []) fun as => pret (a :: as)) fun as => plextend a as) fun _ => pret .next)
        (pseq (pbind (pbind (pget "unexpected") fun a => pbind (pislist a) fun _ => pbind (pbind (pbind (pget "actual") fun a => pbind (pget "j") fun b => pfrom a b) fun a => pbind (pret []) fun as => pret (a :: as)) fun as => plextend a as) fun _ => pret .next)
        (pret .brk))) Qf noE ⟨ℓ, upd (upd σ.heap m (.list (mi.map .int))) u (.list (un.map .int))⟩ := by
    intro i j mi un ℓ Qf hM lm lu hd e1 e2 e3 e4 e5 e6 hK
    obtain ⟨d1, d2⟩ := hM.done hd
    have hl1 := congrArg List.length d1
    have hl2 := congrArg List.length d2
    have c1 : (lessL xs ys).length ≤ xs.length := List.length_filter_le _ _
    have c2 : (lessL ys xs).length ≤ ys.length := List.length_filter_le _ _
    have cc : 4000 ≤ cap := by decide
    simp only [List.length_append] at hl1 hl2
    repeat trivial
    intro f hf
    have hfm : m ≠ f := by rintro rfl; simp [upd, hmu] at hf
    have hfu : u ≠ f := by rintro rfl; simp [upd, hmu] at hf
    have hfσ : σ.heap f = none := by simpa [upd, hfm.symm, hfu.symm] using hf
    have hxf : x ≠ f := ne_sn hx hfσ
    have hyf : y ≠ f := ne_sn hy hfσ
    refine lextend_go (by infer_instance) (by infer_instance) ?_ ?_
    · simp only [List.length_map, List.length_drop, Int.toNat_natCast]; omega
    repeat trivial
    intro g hg
    have hgm : m ≠ g := by rintro rfl; simp [upd, hmu] at hg
    have hgu : u ≠ g := by rintro rfl; simp [upd, hmu, hfu, hmu.symm] at hg
    have hgf : f ≠ g := by rintro rfl; simp [upd, hfm.symm] at hg
    have hgσ : σ.heap g = none := by simpa [upd, hgm.symm, hgu.symm, hgf.symm] using hg
    refine lextend_go (by infer_instance) (by infer_instance) ?_ ?_
    · simp only [List.length_map, List.length_drop, Int.toNat_natCast]; omega
    refine hK _ _ e5 e6 ?_ ?_ ?_
    · exact (((((((Ext.rfl'.upd hm').upd hu').upd hfσ).upd hm').upd hgσ)).upd hu')
    · rw [← d1, List.map_append, List.map_drop]; simp only [Int.toNat_natCast]; infer_instance
    · rw [← d2, List.map_append, List.map_drop]; simp only [Int.toNat_natCast]; exact upd_same
  have aft : ∀ ℓ' τ', ℓ' "missing" = some (.ref m) → ℓ' "unexpected" = some (.ref u) → Ext σ.heap τ' → τ' m = some (.list ((lessL xs ys).map .int)) → τ' u = some (.list ((lessL ys xs).map .int)) →
      (pbind (pbind (pbind (pget "missing") fun a => pbind (pbind (pget "unexpected") fun a => pbind (pret []) fun as => pret (a :: as)) fun as => pret (a :: as)) ptuple) fun v => pret (LF.ret v)) (fun (fl : LF) (σ' : LS) => match fl with | .ret v => Q v ⟨σ.loc, σ'.heap⟩ | .next => Q .none ⟨σ.loc, σ'.heap⟩ | _ => False) noE ⟨ℓ', τ'⟩ := by
    intro ℓ' τ' a1 a2 a3 a4 a5
    repeat trivial
    exact hQ m u τ' hm' hu' hmu a3 a4 a5
  have h60 : (2000 : Int) < 2 ^ 60 := by decide
  repeat trivial
  refine item_go (by infer_instance) (by omega) (by omega) ?_
  rw [List.getElem?_map, Int.toNat_natCast]
  by_cases hil : i < xs.length
  · rw [List.getElem?_eq_getElem hil]
    simp only [Option.map_some]
    repeat trivial
    refine item_go (by infer_instance) (by omega) (by omega) ?_
    rw [List.getElem?_map, Int.toNat_natCast]
    by_cases hjl : j < ys.length
    · rw [List.getElem?_eq_getElem hjl]
      simp only [Option.map_some]
      repeat trivial
      have nx : ∀ h : i + 1 < xs.length, xs[i + 1] ≠ xs[i] := fun h => by have := drop_gt sx hil xs[i + 1] (List.mem_of_getElem? (i := 0) (by simp [List.getElem?_drop, h])); omega
      have ny : ∀ h : j + 1 < ys.length, ys[j + 1] ≠ ys[j] := fun h => by have := drop_gt sy hjl ys[j + 1] (List.mem_of_getElem? (i := 0) (by simp [List.getElem?_drop, h])); omega
      have hm1 : upd (upd (upd σ.heap m (.list (mi.map .int))) u (.list (un.map .int))) m (.list (mi.map .int ++ [.int xs[i]])) = upd (upd σ.heap m (.list ((mi ++ [xs[i]]).map .int))) u (.list (un.map .int)) := by
        rw [upd_comm hmu.symm, upd_upd]; simp
      have hu1 : upd (upd (upd σ.heap m (.list (mi.map .int))) u (.list (un.map .int))) u (.list (un.map .int ++ [.int ys[j]])) = upd (upd σ.heap m (.list (mi.map .int))) u (.list ((un ++ [ys[j]]).map .int)) := by
        rw [upd_upd]; simp
      refine if_both (fun h => ?_) (fun h => ?_)
      · have hlt : xs[i] < ys[j] := by simpa using h
        have hM' := hM.lt sx sy hil hjl hlt
        repeat trivial
        refine lappend_go (xs := mi.map .int) (by infer_instance) (by simp; unfold cap; omega) ?_
        simp only [LS.set, hm1]
        repeat trivial
        refine inner_go (x := x) (i := i + 1) (xs := xs) (e := xs[i]) e1 (by infer_instance) (by show some _ = some _; simp) (by omega) rfl nx ?_ ?_
        · intro hl
          exact hP _ _ (by omega) ⟨i + 1, j, _, _, rfl, by omega, by omega, by simp; omega, by omega, hM', e1, e2, by show some _ = some _; simp, e4, e5, e6, rfl⟩
        · intro hl
          exact ⟨rfl, fin (i + 1) j _ _ _ _ hM' (by simp; omega) (by omega) (.inl (by omega)) e1 e2 (by show some _ = some _; simp) e4 e5 e6 aft⟩
      have hge : ¬ xs[i] < ys[j] := by simpa using h
      repeat trivial
      refine if_both (fun h => ?_) (fun h => ?_)
      · have hlt : ys[j] < xs[i] := by simpa using h
        have hM' := (hM.swap.lt sy sx hjl hil hlt).swap
        repeat trivial
        refine lappend_go (xs := un.map .int) (by infer_instance) (by simp; unfold cap; omega) ?_
        simp only [LS.set, hu1]
        repeat trivial
        refine inner_go (x := y) (i := j + 1) (xs := ys) (e := ys[j]) e2 (by infer_instance) (by show some _ = some _; simp) (by omega) rfl ny ?_ ?_
        · intro hl
          exact hP _ _ (by omega) ⟨i, j + 1, _, _, rfl, by omega, by omega, by omega, by simp; omega, hM', e1, e2, e3, by show some _ = some _; simp, e5, e6, rfl⟩
        · intro hl
          exact ⟨rfl, fin i (j + 1) _ _ _ _ hM' (by omega) (by simp; omega) (.inr (by omega)) e1 e2 e3 (by show some _ = some _; simp) e5 e6 aft⟩
      · have heq : xs[i] = ys[j] := by have : ¬ ys[j] < xs[i] := by simpa using h
                                       omega
        have hM' := hM.eq sx sy hil hjl heq
        repeat trivial
        refine inner_go (x := x) (i := i + 1) (xs := xs) (e := xs[i]) e1 (by infer_instance) (by show some _ = some _; simp) (by omega) rfl nx ?_ ?_
        · intro hl
          repeat trivial
          refine inner_go (x := y) (i := j + 1) (xs := ys) (e := ys[j]) e2 (by infer_instance) (by show some _ = some _; simp) (by omega) rfl ny ?_ ?_
          · intro hl
            exact hP _ _ (by omega) ⟨i + 1, j + 1, _, _, rfl, by omega, by omega, by omega, by omega, hM', e1, e2, by show some _ = some _; simp, by show some _ = some _; simp, e5, e6, rfl⟩
          · intro hl
            exact ⟨rfl, fin (i + 1) (j + 1) _ _ _ _ hM' (by omega) (by omega) (.inr (by omega)) e1 e2 (by show some _ = some _; simp) (by show some _ = some _; simp) e5 e6 aft⟩
        · intro hl
          refine ⟨rfl, ?_⟩
          repeat trivial
          refine inner_goH (x := y) (i := j + 1) (xs := ys) (e := ys[j]) e2 (by infer_instance) (by show some _ = some _; simp) (by omega) rfl ny ?_ ?_
          · intro hl2
            exact ⟨rfl, fin (i + 1) (j + 1) _ _ _ _ hM' (by omega) (by omega) (.inl (by omega)) e1 e2 (by show some _ = some _; simp) (by show some _ = some _; simp) e5 e6 aft⟩
          · intro hl2
            exact ⟨rfl, fin (i + 1) (j + 1) _ _ _ _ hM' (by omega) (by omega) (.inr (by omega)) e1 e2 (by show some _ = some _; simp) (by show some _ = some _; simp) e5 e6 aft⟩
    · rw [List.getElem?_eq_none (by omega)]
      exact ⟨rfl, fin i j mi un _ _ hM (by omega) (by omega) (.inr (by omega)) e1 e2 e3 e4 e5 e6 aft⟩
  · rw [List.getElem?_eq_none (by omega)]
    exact ⟨rfl, fin i j mi un _ _ hM (by omega) (by omega) (.inl (by omega)) e1 e2 e3 e4 e5 e6 aft⟩
end
section
abbrev SS (xs : List Int) : Prop := xs.Pairwise (· < ·)
theorem ss_nodup {xs : List Int} (h : SS xs) : xs.Nodup := h.imp fun h => Int.ne_of_lt h
theorem ss_of {xs : List Int} (h : xs.Pairwise (· ≤ ·)) (n : xs.Nodup) : SS xs := by
  induction xs with
  | nil => exact .nil
  | cons a xs ih =>
    rw [List.pairwise_cons] at h
    rw [List.nodup_cons] at n
    refine List.pairwise_cons.mpr ⟨fun b hb => ?_, ih h.2 n.2⟩
    have h1 := h.1 b hb
    have h2 : a ≠ b := fun z => n.1 (z ▸ hb)
    omega
theorem ss_ext : ∀ {xs ys : List Int}, SS xs → SS ys → (∀ a, a ∈ xs ↔ a ∈ ys) → xs = ys
  | [], [], _, _, _ => rfl
  | [], y :: ys, _, _, h => by have := (h y).mpr (.head _); simp at this
  | x :: xs, [], _, _, h => by have := (h x).mp (.head _); simp at this
  | x :: xs, y :: ys, h1, h2, h => by
    rw [SS, List.pairwise_cons] at h1 h2
    have e : x = y := by
      rcases List.mem_cons.mp ((h x).mp (.head _)) with z | z
      · exact z
      · rcases List.mem_cons.mp ((h y).mpr (.head _)) with w | w
        · exact w.symm
        · have a := h2.1 x z; have b := h1.1 y w; omega
    subst e
    congr 1
    refine ss_ext h1.2 h2.2 fun a => ⟨fun ha => ?_, fun ha => ?_⟩
    · rcases List.mem_cons.mp ((h a).mp (.tail _ ha)) with z | z
      · have := h1.1 a ha; omega
      · exact z
    · rcases List.mem_cons.mp ((h a).mpr (.tail _ ha)) with z | z
      · have := h2.1 a ha; omega
      · exact z
/-- numbers of jobs -/
abbrev Sm (xs : List Int) : Prop := ∀ a ∈ xs, 0 ≤ a ∧ a < 20
theorem ss_len {xs : List Int} (h : xs.Nodup) (b : Sm xs) : xs.length ≤ 20 := by
  have h1 : (xs.map Int.toNat).Nodup := by
    rw [List.Nodup, List.pairwise_map]
    refine List.Pairwise.imp_of_mem ?_ h
    intro a c ha hc hne z
    have := b a ha; have := b c hc; omega
  have h2 : (xs.map Int.toNat) ⊆ List.range 20 := by
    intro n hn
    obtain ⟨a, ha, rfl⟩ := List.mem_map.mp hn
    have := b a ha
    rw [List.mem_range]; omega
  have := h1.length_le_of_subset h2
  simpa using this
theorem mem_lessL {xs ys : List Int} {a : Int} : a ∈ lessL xs ys ↔ a ∈ xs ∧ a ∉ ys := by
  unfold lessL; rw [List.mem_filter]; simp
theorem ss_less {xs ys : List Int} (h : SS xs) : SS (lessL xs ys) := h.filter _
theorem join_step {W R js : List Int} (hW : SS W) (hR : SS R) (hp : js.Perm (W ++ lessL R W)) (hs : js.Pairwise (· ≤ ·)) : SS js ∧ ∀ a, a ∈ js ↔ a ∈ W ∨ a ∈ R := by
  refine ⟨ss_of hs ?_, fun a => ?_⟩
  · rw [hp.nodup_iff, List.nodup_append]
    refine ⟨ss_nodup hW, ss_nodup (ss_less hR), fun a ha b hb z => ?_⟩
    subst z
    exact (mem_lessL.mp hb).2 ha
  · rw [hp.mem_iff, List.mem_append, mem_lessL]
    constructor
    · rintro (h | h)
      · exact .inl h
      · exact .inr h.1
    · rintro (h | h)
      · exact .inl h
      · by_cases z : a ∈ W
        · exact .inl z
        · exact .inr ⟨h, z⟩

set_option maxHeartbeats 4000000 in
theorem C_joinedF {ad : Ad} {σ : LS} {r : Nat} {rws : List (Nat × List Int)} {Q : LV → LS → Prop} {E : LX → LS → Prop} (hr : σ.heap r = some (.list (rws.map fun p => .ref p.1))) (hp : ∀ p ∈ rws, σ.heap p.1 = some (.list (p.2.map .int)) ∧ SS p.2 ∧ Sm p.2)
    (hQ : ∀ w (τ : LH) W, σ.heap w = none → Ext σ.heap τ → τ w = some (.list (W.map .int)) → SS W → (∀ a, a ∈ W ↔ ∃ p ∈ rws, a ∈ p.2) → Q (.ref w) ⟨σ.loc, τ⟩) :
    P_law_joined ad [.ref r] Q E σ := by
  refine ⟨_, rfl, ?_⟩
  unfold B_law_joined
  trivial
  intro w0 hw0
  repeat trivial
  refine for_go (fun pre _ σ' => ∃ (w : Nat) (W : List Int), σ'.loc "whole" = some (.ref w) ∧ σ.heap w = none ∧ Ext σ.heap σ'.heap ∧ σ'.heap w = some (.list (W.map .int)) ∧ SS W ∧ (∀ a, a ∈ W ↔ ∃ p ∈ pre, a ∈ p.2)) rws ⟨w0, [], rfl, hw0, Ext.new hw0, upd_same, .nil, by simp⟩ ?_ ?_
  · rintro P pre ⟨x, R⟩ rest ⟨ℓ, τ⟩ he ⟨w, W, e1, kw, hE, hw, sW, mW⟩ hP
    simp only at e1 hE hw
    obtain ⟨hx, sR, bR⟩ := hp (x, R) (by rw [he]; simp)
    simp only at hx sR bR
    have bW : Sm W := fun a ha => by
      obtain ⟨p, hp1, hp2⟩ := (mW a).mp ha
      exact (hp p (by rw [he]; simp [hp1])).2.2 a hp2
    have lW := ss_len (ss_nodup sW) bW
    have lR := ss_len (ss_nodup sR) bR
    refine ⟨by infer_instance, ?_⟩
    repeat trivial
    refine C_sld (E := noE) (xs := W) (ys := R) (by infer_instance) (by infer_instance) sW sR (by omega) (by omega) ?_
    intro m u τ1 hm hu hmu hE1 hτm hτu
    repeat trivial
    have lD : (lessL R W).length ≤ R.length := List.length_filter_le _ _
    refine cat_go (xs := W.map .int) (ys := (lessL R W).map .int) (by exact hE1 _ _ hw) (by exact hτu) (by simp [cap]; omega) ?_
    intro d hd
    refine sorted_go (is := W ++ lessL R W) (by rw [List.map_append]; exact upd_same) (by simp; omega) ?_
    intro js hjp hjs f hf
    obtain ⟨sj, mj⟩ := join_step sW sR hjp hjs
    repeat trivial
    refine hP _ ⟨f, js, rfl, ((hE.tr hE1).tr (Ext.new hd)).none hf, ?_, upd_same, sj, fun a => ?_⟩
    · exact ((hE.tr hE1).tr (Ext.new hd)).tr (Ext.new hf)
    · rw [mj, mW]
      constructor
      · rintro (⟨p, h1, h2⟩ | h)
        · exact ⟨p, by simp [h1], h2⟩
        · exact ⟨(x, R), by simp, h⟩
      · rintro ⟨p, h1, h2⟩
        rcases List.mem_append.mp h1 with z | z
        · exact .inl ⟨p, z, h2⟩
        · rw [List.mem_singleton] at z; subst z; exact .inr h2
  · rintro ⟨ℓ, τ⟩ ⟨w, W, e1, kw, hE, hw, sW, mW⟩
    simp only at e1 hE hw
    refine ⟨by infer_instance, ?_⟩
    repeat trivial
    exact hQ w τ W kw hE hw sW mW
theorem C_joined {ad : Ad} {σ : LS} {r : Nat} {rws : List (Nat × List Int)} {Q : LV → LS → Prop} {E : LX → LS → Prop} (hr : σ.heap r = some (.list (rws.map fun p => .ref p.1))) (hp : ∀ p ∈ rws, σ.heap p.1 = some (.list (p.2.map .int)) ∧ SS p.2 ∧ Sm p.2)
    (hQ : ∀ w (τ : LH) W, Ext σ.heap τ → τ w = some (.list (W.map .int)) → SS W → (∀ a, a ∈ W ↔ ∃ p ∈ rws, a ∈ p.2) → Q (.ref w) ⟨σ.loc, τ⟩) :
    P_law_joined ad [.ref r] Q E σ := C_joinedF hr hp fun w τ W _ => hQ w τ W
end
section
/-- where a sorter's parts lie -/
structure Sr where
  t : Nat
  d : Nat
  nd : Nat
  ns : List Int
  info : Int → Nat
  idd : Int → Nat
  sl : Int → Nat
  rl : Option Nat
def Sr.Foot (S : Sr) (b : Nat) : Prop := b = S.t ∨ b = S.d ∨ b = S.nd ∨ S.rl = some b ∨ ∃ n ∈ S.ns, b = S.info n ∨ b = S.idd n ∨ b = S.sl n
def rlV : Option Nat → LV
  | none => .none
  | some a => .ref a
abbrev topAt (nd : Nat) (rl : Option Nat) (po nf : Int) : LO := .attrs [("_node2info", .ref nd), ("_ready_nodes", rlV rl), ("_npassedout", .int po), ("_nfinished", .int nf)]
abbrev nodeAt (ad : Ad) (d : Nat) (n p : Int) (l : Nat) : LO := .inst ad.CN d [some (.int n), some (.int p), some (.ref l)]
structure Srt (ad : Ad) (τ : LH) (S : Sr) (np : Int → Int) (succ : Int → List Int) (rd : List Int) (po nf : Int) : Prop where
  t : τ S.t = some (.inst ad.CT S.d [])
  d : τ S.d = some (topAt S.nd S.rl po nf)
  nd : ∃ ep, τ S.nd = some (.dict (S.ns.map fun n => (n, .ref (S.info n))) ep)
  info : ∀ n ∈ S.ns, τ (S.info n) = some (nodeAt ad (S.idd n) n (np n) (S.sl n))
  idd : ∀ n ∈ S.ns, τ (S.idd n) = some (.attrs [])
  sl : ∀ n ∈ S.ns, τ (S.sl n) = some (.list ((succ n).map .int))
  slinj : ∀ n ∈ S.ns, ∀ m ∈ S.ns, S.sl n = S.sl m → n = m
  nodup : S.ns.Nodup
  rl : ∀ a, S.rl = some a → τ a = some (.list (rd.map .int)) ∧ ∀ n ∈ S.ns, S.sl n ≠ a
section
variable {ad : Ad} {τ τ' : LH} {S S' : Sr} {np : Int → Int} {succ : Int → List Int} {rd : List Int} {po nf : Int}
theorem Srt.foot (h : Srt ad τ S np succ rd po nf) {b : Nat} (f : S.Foot b) : ∃ o, τ b = some o := by
  rcases f with rfl | rfl | rfl | f | ⟨n, hn, rfl | rfl | rfl⟩
  · exact ⟨_, h.t⟩
  · exact ⟨_, h.d⟩
  · obtain ⟨ep, e⟩ := h.nd; exact ⟨_, e⟩
  · exact ⟨_, (h.rl b f).1⟩
  · exact ⟨_, h.info n hn⟩
  · exact ⟨_, h.idd n hn⟩
  · exact ⟨_, h.sl n hn⟩
theorem Srt.same (h : Srt ad τ S np succ rd po nf) (k : ∀ b o, S.Foot b → τ b = some o → τ' b = some o) : Srt ad τ' S np succ rd po nf := by
  refine ⟨k _ _ (.inl rfl) h.t, k _ _ (.inr (.inl rfl)) h.d, ?_, fun n hn => k _ _ (.inr (.inr (.inr (.inr ⟨n, hn, .inl rfl⟩)))) (h.info n hn), fun n hn => k _ _ (.inr (.inr (.inr (.inr ⟨n, hn, .inr (.inl rfl)⟩)))) (h.idd n hn), fun n hn => k _ _ (.inr (.inr (.inr (.inr ⟨n, hn, .inr (.inr rfl)⟩)))) (h.sl n hn), h.slinj, h.nodup, fun a ha => ⟨k _ _ (.inr (.inr (.inr (.inl ha)))) (h.rl a ha).1, (h.rl a ha).2⟩⟩
  obtain ⟨ep, e⟩ := h.nd
  exact ⟨ep, k _ _ (.inr (.inr (.inl rfl))) e⟩
theorem Srt.ext (h : Srt ad τ S np succ rd po nf) (k : Ext τ τ') : Srt ad τ' S np succ rd po nf := h.same fun b o _ e => k b o e
theorem Srt.put (h : Srt ad τ S np succ rd po nf) {b : Nat} {o : LO} (k : ¬ S.Foot b) : Srt ad (upd τ b o) S np succ rd po nf :=
  h.same fun c o' f e => upd_ne (fun z => k (z ▸ f)) e
theorem Srt.inj (h : Srt ad τ S np succ rd po nf) {n m : Int} (hn : n ∈ S.ns) (hm : m ∈ S.ns) (e : S.info n = S.info m) : n = m := by
  have h1 := h.info n hn; have h2 := h.info m hm
  rw [e, h2] at h1
  simp only [nodeAt, Option.some.injEq, LO.inst.injEq, List.cons.injEq, LV.int.injEq] at h1
  exact h1.2.2.1.symm
theorem ne_oo {τ : LH} {a b : Nat} {o o' : LO} (h : τ a = some o) (k : τ b = some o') (n : o ≠ o') : a ≠ b := fun z => by
  subst z; rw [h] at k; exact n (Option.some.inj k)

theorem lookup_map {f : Int → LV} : ∀ {ns : List Int} {n : Int}, (ns.map fun n => (n, f n)).lookup n = if n ∈ ns then some (f n) else none
  | [], n => by simp
  | m :: ns, n => by
    simp only [List.map_cons, List.lookup_cons]
    by_cases e : n = m
    · subst e; simp
    · rw [beq_eq_false_iff_ne.mpr e]
      simp only [lookup_map]
      simp [e]
theorem dput_new {es : List (Int × LV)} {k : Int} {v : LV} (h : es.lookup k = none) : dput es k v = es ++ [(k, v)] := by
  unfold dput
  rw [if_neg]
  intro z
  obtain ⟨⟨a, b⟩, h1, h2⟩ := List.any_eq_true.mp z
  have h2 : a = k := by simpa using h2
  subst h2
  have := List.lookup_eq_none_iff.mp h _ h1
  simp at this
theorem Srt.setnp (h : Srt ad τ S np succ rd po nf) {n : Int} (hn : n ∈ S.ns) (v : Int) : Srt ad (upd τ (S.info n) (nodeAt ad (S.idd n) n v (S.sl n))) S (fun m => if m = n then v else np m) succ rd po nf := by
  have hi := h.info n hn
  obtain ⟨ep, hnd⟩ := h.nd
  refine ⟨upd_ne (ne_oo h.t hi (by simp)) h.t, upd_ne (ne_oo h.d hi (by simp)) h.d, ⟨ep, upd_ne (ne_oo hnd hi (by simp)) hnd⟩, fun m hm => ?_, fun m hm => upd_ne (ne_oo (h.idd m hm) hi (by simp)) (h.idd m hm), fun m hm => upd_ne (ne_oo (h.sl m hm) hi (by simp)) (h.sl m hm), h.slinj, h.nodup, fun a ha => ⟨upd_ne (ne_oo (h.rl a ha).1 hi (by simp)) (h.rl a ha).1, (h.rl a ha).2⟩⟩
  by_cases e : m = n
  · subst e; simp only [if_true]; exact upd_same
  · rw [if_neg e]; exact upd_ne (fun z => e (h.inj hm hn z)) (h.info m hm)
theorem Srt.setsl (h : Srt ad τ S np succ rd po nf) {n : Int} (hn : n ∈ S.ns) (l : List Int) : Srt ad (upd τ (S.sl n) (.list (l.map .int))) S np (fun m => if m = n then l else succ m) rd po nf := by
  have hi := h.sl n hn
  obtain ⟨ep, hnd⟩ := h.nd
  refine ⟨upd_ne (ne_oo h.t hi (by simp)) h.t, upd_ne (ne_oo h.d hi (by simp)) h.d, ⟨ep, upd_ne (ne_oo hnd hi (by simp)) hnd⟩, fun m hm => upd_ne (ne_oo (h.info m hm) hi (by simp)) (h.info m hm), fun m hm => upd_ne (ne_oo (h.idd m hm) hi (by simp)) (h.idd m hm), fun m hm => ?_, h.slinj, h.nodup, fun a ha => ⟨upd_ne (Ne.symm ((h.rl a ha).2 n hn)) (h.rl a ha).1, (h.rl a ha).2⟩⟩
  by_cases e : m = n
  · subst e; simp only [if_true]; exact upd_same
  · rw [if_neg e]; exact upd_ne (fun z => e (h.slinj m hm n hn z)) (h.sl m hm)
theorem Srt.setd (h : Srt ad τ S np succ rd po nf) (po' nf' : Int) : Srt ad (upd τ S.d (topAt S.nd S.rl po' nf')) S np succ rd po' nf' := by
  have hi := h.d
  obtain ⟨ep, hnd⟩ := h.nd
  exact ⟨upd_ne (ne_oo h.t hi (by simp)) h.t, upd_same, ⟨ep, upd_ne (ne_oo hnd hi (by simp)) hnd⟩, fun m hm => upd_ne (ne_oo (h.info m hm) hi (by simp)) (h.info m hm), fun m hm => upd_ne (ne_oo (h.idd m hm) hi (by simp)) (h.idd m hm), fun m hm => upd_ne (ne_oo (h.sl m hm) hi (by simp)) (h.sl m hm), h.slinj, h.nodup, fun a ha => ⟨upd_ne (ne_oo (h.rl a ha).1 hi (by simp)) (h.rl a ha).1, (h.rl a ha).2⟩⟩
theorem Srt.setrd (h : Srt ad τ S np succ rd po nf) {a : Nat} (ha : S.rl = some a) (l : List Int) : Srt ad (upd τ a (.list (l.map .int))) S np succ l po nf := by
  obtain ⟨hi, hne⟩ := h.rl a ha
  obtain ⟨ep, hnd⟩ := h.nd
  exact ⟨upd_ne (ne_oo h.t hi (by simp)) h.t, upd_ne (ne_oo h.d hi (by simp)) h.d, ⟨ep, upd_ne (ne_oo hnd hi (by simp)) hnd⟩, fun m hm => upd_ne (ne_oo (h.info m hm) hi (by simp)) (h.info m hm), fun m hm => upd_ne (ne_oo (h.idd m hm) hi (by simp)) (h.idd m hm), fun m hm => upd_ne (hne m hm) (h.sl m hm), h.slinj, h.nodup, fun b hb => by rw [ha] at hb; cases hb; exact ⟨upd_same, hne⟩⟩

/-- what stands outside a sorter stands on -/
def Fr (S : Sr) (τ τ' : LH) : Prop := ∀ b o, ¬ S.Foot b → τ b = some o → τ' b = some o
theorem Fr.rfl' : Fr S τ τ := fun _ _ _ h => h
theorem Fr.tr {τ'' : LH} (h : Fr S τ τ') (k : Fr S τ' τ'') : Fr S τ τ'' := fun b o f e => k b o f (h b o f e)
theorem Fr.upd {b : Nat} {o : LO} (f : S.Foot b) : Fr S τ (upd τ b o) := fun c o' nf e => upd_ne (fun z => nf (z ▸ f)) e
theorem Sr.Foot.info {n : Int} (hn : n ∈ S.ns) : S.Foot (S.info n) := .inr (.inr (.inr (.inr ⟨n, hn, .inl rfl⟩)))
theorem Sr.Foot.sl {n : Int} (hn : n ∈ S.ns) : S.Foot (S.sl n) := .inr (.inr (.inr (.inr ⟨n, hn, .inr (.inr rfl)⟩)))
theorem Sr.Foot.d : S.Foot S.d := .inr (.inl rfl)
theorem Sr.Foot.rl {a : Nat} (h : S.rl = some a) : S.Foot a := .inr (.inr (.inr (.inl h)))
/-- a sorter that has grown -/
structure Grow (K : LH) (S : Sr) (S' : Sr) : Prop where
  t : S'.t = S.t
  foot : ∀ b, S.Foot b → S'.Foot b
  out : (∀ b, S.Foot b → K b = none) → ∀ b, S'.Foot b → K b = none

set_option maxHeartbeats 4000000 in
theorem C_initN {σ : LS} {n : Int} {ai di : Nat} {Q : LV → LS → Prop} {E : LX → LS → Prop} (ha : σ.heap ai = some (.inst ad.CN di [])) (hd : σ.heap di = some (.attrs []))
    (hQ : ∀ li, σ.heap li = none → Q .none ⟨σ.loc, upd (upd σ.heap ai (nodeAt ad di n 0 li)) li (.list [])⟩) :
    P_initN ad [.ref ai, .int n] Q E σ := by
  refine ⟨_, rfl, ?_⟩
  unfold B_initN
  have hne : di ≠ ai := ne_oo hd ha (by simp)
  repeat trivial
  intro li hli
  have hlia : li ≠ ai := by rintro rfl; simp [upd] at hli
  have hli' : σ.heap li = none := by simpa [upd, LS.set, hlia] using hli
  have hlid : li ≠ di := (ne_sn hd hli').symm
  repeat trivial
  refine Eq.mp (congrArg (Q .none) ?_) (hQ li hli')
  refine congrArg (LS.mk σ.loc) ?_
  funext b
  simp only [upd]
  by_cases z1 : b = ai
  · subst z1; simp [hlia.symm, sput]
  · by_cases z2 : b = li <;> simp [z1, z2, hlia]
end
end
section
section
variable {ad : Ad} {τ τ' : LH} {S S' : Sr} {np : Int → Int} {succ : Int → List Int} {rd : List Int} {po nf : Int}
set_option maxHeartbeats 4000000 in
theorem C_getinfo {σ : LS} {n : Int} {K : LH} {Q : LV → LS → Prop} {E : LX → LS → Prop} (h : Srt ad σ.heap S np succ rd po nf) (hK : Ext K σ.heap) (hO : ∀ b, S.Foot b → K b = none) (h0 : n ∉ S.ns → np n = 0 ∧ succ n = []) (hl : S.ns.length < 900)
    (hQ : ∀ S' τ', Srt ad τ' S' np succ rd po nf → Ext K τ' → (∀ b, S'.Foot b → K b = none) → S'.t = S.t → S'.rl = S.rl → S'.ns = (if n ∈ S.ns then S.ns else S.ns ++ [n]) → Q (.ref (S'.info n)) ⟨σ.loc, τ'⟩) :
    P_get_nodeinfo ad [.ref S.t, .int n] Q E σ := by
  refine ⟨_, rfl, ?_⟩
  unfold B_get_nodeinfo
  have ht := h.t
  have hd := h.d
  obtain ⟨ep, hnd⟩ := h.nd
  repeat trivial
  rw [lookup_map]
  by_cases hn : n ∈ S.ns
  · rw [if_pos hn, Option.getD_some]
    repeat trivial
    exact hQ S _ h hK hO rfl rfl (by rw [if_pos hn])
  · rw [if_neg hn, Option.getD_none]
    iterate 3 trivial
    intro di ai h1 hd0 ha0
    have hdi : σ.heap di = none := hd0
    have hai : σ.heap ai = none := ha0
    clear hd0 ha0
    refine C_initN (E := noE) (by exact upd_same) (by exact upd_ne h1 upd_same) fun li hl0 => ?_
    have h2 : li ≠ ai := by rintro rfl; simp [upd, LS.put] at hl0
    have h3 : li ≠ di := by rintro rfl; simp [upd, LS.put, h1] at hl0
    have hli : σ.heap li = none := by simpa [upd, LS.put, LS.set, h2, h3] using hl0
    clear hl0
    refine ⟨rfl, ?_⟩
    have e9 : upd (upd (((⟨bindLoc (["self", "node"].zip [LV.ref S.t, LV.int n]) fun x => none, σ.heap⟩ : LS).set "result" LV.none).put di (LO.attrs []) |>.put ai (LO.inst ad.CN di [])).heap ai (nodeAt ad di n 0 li)) li (LO.list []) = upd (upd (upd σ.heap di (.attrs [])) ai (nodeAt ad di n 0 li)) li (.list []) := by
      funext b
      simp only [upd, LS.put, LS.set]
      by_cases z1 : b = ai <;> by_cases z2 : b = li <;> simp [z1, z2]
    rw [e9]
    have a1 : S.t ≠ ai := ne_sn ht hai
    have a2 : S.t ≠ di := ne_sn ht hdi
    have a3 : S.t ≠ li := ne_sn ht hli
    have b1 : S.d ≠ ai := ne_sn hd hai
    have b2 : S.d ≠ di := ne_sn hd hdi
    have b3 : S.d ≠ li := ne_sn hd hli
    have c1 : S.nd ≠ ai := ne_sn hnd hai
    have c2 : S.nd ≠ di := ne_sn hnd hdi
    have c3 : S.nd ≠ li := ne_sn hnd hli
    repeat trivial
    refine dset_go (by infer_instance) (by simp [cap]; omega) (fun ep' => ?_)
    repeat trivial
    rw [dput_new (by rw [lookup_map, if_neg hn])]
    have lo : ∀ b o, σ.heap b = some o → b ≠ S.nd → upd (upd (upd (upd σ.heap di (.attrs [])) ai (nodeAt ad di n 0 li)) li (.list [])) S.nd (.dict (S.ns.map (fun n => (n, LV.ref (S.info n))) ++ [(n, .ref ai)]) ep') b = some o := fun b o e hb =>
      upd_ne hb (upd_ne (ne_sn e hli) (upd_ne (ne_sn e hai) (upd_ne (ne_sn e hdi) e)))
    have q := hQ { S with ns := S.ns ++ [n], info := fun m => if m = n then ai else S.info m, idd := fun m => if m = n then di else S.idd m, sl := fun m => if m = n then li else S.sl m } (upd (upd (upd (upd σ.heap di (.attrs [])) ai (nodeAt ad di n 0 li)) li (.list [])) S.nd (.dict (S.ns.map (fun n => (n, LV.ref (S.info n))) ++ [(n, .ref ai)]) ep')) ?_ ?_ ?_ rfl rfl (by rw [if_neg hn])
    · simp only [if_true] at q; exact q
    · obtain ⟨n0, s0⟩ := h0 hn
      have hm : ∀ m ∈ S.ns, m ≠ n := fun m hm z => hn (z ▸ hm)
      refine ⟨lo _ _ ht (ne_oo ht hnd (by simp)), lo _ _ hd (ne_oo hd hnd (by simp)), ⟨ep', ?_⟩, fun m hm' => ?_, fun m hm' => ?_, fun m hm' => ?_, fun m hm' m' hm'' e => ?_, ?_, fun a ha => ⟨lo _ _ (h.rl a ha).1 (ne_oo (h.rl a ha).1 hnd (by simp)), fun m hm' => ?_⟩⟩
      · rw [upd_same]
        simp only [List.map_append, List.map_cons, List.map_nil, if_true]
        congr 3
        refine List.map_congr_left fun m hm' => ?_
        rw [if_neg (hm m hm')]
      · rcases List.mem_append.mp hm' with z | z
        · have := hm m z
          simp only [if_neg this]
          exact lo _ _ (h.info m z) (ne_oo (h.info m z) hnd (by simp))
        · rw [List.mem_singleton] at z; subst z
          simp only [if_true, n0]
          exact upd_ne c1.symm (upd_ne h2.symm upd_same)
      · rcases List.mem_append.mp hm' with z | z
        · have := hm m z
          simp only [if_neg this]
          exact lo _ _ (h.idd m z) (ne_oo (h.idd m z) hnd (by simp))
        · rw [List.mem_singleton] at z; subst z
          simp only [if_true, n0]
          exact upd_ne c2.symm (upd_ne h3.symm (upd_ne h1 upd_same))
      · rcases List.mem_append.mp hm' with z | z
        · have := hm m z
          simp only [if_neg this]
          exact lo _ _ (h.sl m z) (ne_oo (h.sl m z) hnd (by simp))
        · rw [List.mem_singleton] at z; subst z
          simp only [if_true, s0]
          exact upd_ne c3.symm upd_same
      · rcases List.mem_append.mp hm' with z | z <;> rcases List.mem_append.mp hm'' with y | y
        · simp only [if_neg (hm m z), if_neg (hm m' y)] at e
          exact h.slinj m z m' y e
        · rw [List.mem_singleton] at y; subst y
          simp only [if_neg (hm m z), if_true] at e
          exact absurd e (ne_sn (h.sl m z) hli)
        · rw [List.mem_singleton] at z; subst z
          simp only [if_neg (hm m' y), if_true] at e
          exact absurd e.symm (ne_sn (h.sl m' y) hli)
        · rw [List.mem_singleton] at z y; rw [z, y]
      · show (S.ns ++ [n]).Nodup
        rw [List.nodup_append]
        exact ⟨h.nodup, by simp, fun a ha b hb => by rw [List.mem_singleton] at hb; subst hb; exact hm a ha⟩
      · rcases List.mem_append.mp hm' with z | z
        · simp only [if_neg (hm m z)]; exact (h.rl a ha).2 m z
        · rw [List.mem_singleton] at z; subst z
          simp only [if_true]
          exact Ne.symm (ne_sn (h.rl a ha).1 hli)
    · exact (((hK.upd (hK.none hdi)).upd (hK.none hai)).upd (hK.none hli)).upd (hO _ (.inr (.inr (.inl rfl))))
    · intro b hb
      rcases hb with z | z | z | z | ⟨m, hm, z⟩
      · exact hO b (.inl z)
      · exact hO b (.inr (.inl z))
      · exact hO b (.inr (.inr (.inl z)))
      · exact hO b (.inr (.inr (.inr (.inl z))))
      · rcases List.mem_append.mp hm with y | y
        · have hmn : m ≠ n := fun z => hn (z ▸ y)
          simp only [if_neg hmn] at z
          exact hO b (.inr (.inr (.inr (.inr ⟨m, y, z⟩))))
        · rw [List.mem_singleton] at y; subst y
          simp only [if_true] at z
          rcases z with rfl | rfl | rfl
          · exact hK.none hai
          · exact hK.none hdi
          · exact hK.none hli
end
end
section
section
variable {ad : Ad} {τ τ' : LH} {S S' : Sr} {np : Int → Int} {succ : Int → List Int} {rd : List Int} {po nf : Int}
/-- a sorter that is being filled: K stands outside -/
structure Fill (ad : Ad) (K τ : LH) (S : Sr) (np : Int → Int) (succ : Int → List Int) : Prop where
  srt : Srt ad τ S np succ [] 0 0
  keep : Ext K τ
  out : ∀ b, S.Foot b → K b = none
  zero : ∀ m, m ∉ S.ns → np m = 0 ∧ succ m = []
  sm : Sm S.ns
  rl : S.rl = none
theorem Fill.len {K : LH} (h : Fill ad K τ S np succ) : S.ns.length ≤ 20 := ss_len h.srt.nodup h.sm

theorem sput1 {a b : Option LV} {c : LV} {v : LV} : sput [a, b, some c] 1 v = [a, some v, some c] := rfl

set_option maxHeartbeats 4000000 in
theorem C_add {σ : LS} {n : Int} {ps : List Int} {K : LH} {Q : LV → LS → Prop} {E : LX → LS → Prop} (h : Fill ad K σ.heap S np succ) (hn : 0 ≤ n ∧ n < 20) (hp : ps.Nodup) (hps : Sm ps) (hb : ∀ m, (succ m).length ≤ 1000)
    (hQ : ∀ S' τ', Fill ad K τ' S' (fun m => if m = n then np m + ps.length else np m) (fun m => if m ∈ ps then succ m ++ [n] else succ m) → S'.t = S.t → (∀ m, m ∈ S'.ns ↔ m ∈ S.ns ∨ m = n ∨ m ∈ ps) → Q .none ⟨σ.loc, τ'⟩) :
    P_add ad (.ref S.t :: .int n :: ps.map .int) Q E σ := by
  have hpl := ss_len hp hps
  refine ⟨[("self", .ref S.t), ("node", .int n), ("predecessors", .tup (ps.map .int))], ?_, ?_⟩
  · unfold bndV
    rw [if_pos (by simp [cap]; omega)]
    rfl
  unfold B_add
  have ht := h.srt.t
  have hd := h.srt.d
  simp only [topAt, rlV, h.rl] at hd
  have hl := h.len
  repeat trivial
  refine C_getinfo (E := noE) (K := K) h.srt h.keep h.out (fun z => h.zero n z) (by omega) ?_
  intro S1 τ1 h1 k1 o1 t1 r1 n1
  have hn1 : n ∈ S1.ns := by rw [n1]; split <;> simp_all
  have hm1 : ∀ m, m ∈ S1.ns ↔ m ∈ S.ns ∨ m = n := fun m => by
    rw [n1]; split
    · constructor
      · exact .inl
      · rintro (z | rfl)
        · exact z
        · assumption
    · simp
  have hi1 := h1.info n hn1
  have hdd1 := h1.idd n hn1
  repeat trivial
  refine lenT_go (by simp [cap]; omega) ?_
  repeat trivial
  simp only [sput1]
  repeat trivial
  refine titems_go (by simp [cap]; omega) ?_
  refine for_go (fun pre _ σ' => σ'.loc "self" = some (.ref S.t) ∧ σ'.loc "node" = some (.int n) ∧ ∃ S', Fill ad K σ'.heap S' (fun m => if m = n then np m + ps.length else np m) (fun m => if m ∈ pre then succ m ++ [n] else succ m) ∧ S'.t = S.t ∧ (∀ m, m ∈ S'.ns ↔ m ∈ S.ns ∨ m = n ∨ m ∈ pre)) ps ?_ ?_ ?_
  · refine ⟨rfl, rfl, S1, ⟨?_, ?_, o1, ?_, ?_, by rw [r1, h.rl]⟩, t1, by simpa using hm1⟩
    · have := h1.setnp hn1 (np n + ps.length)
      have e : (fun m => if m = n then np n + (ps.length : Int) else np m) = fun m => if m = n then np m + ps.length else np m := by
        funext m; by_cases z : m = n <;> simp [z]
      rw [e] at this
      simp only [List.not_mem_nil, if_false, List.length_map]
      exact this
    · exact k1.upd (o1 _ (.info hn1))
    · intro m hm
      have : m ∉ S.ns := fun z => hm ((hm1 m).mpr (.inl z))
      have hmn : m ≠ n := fun z => hm ((hm1 m).mpr (.inr z))
      simp [hmn, h.zero m this]
    · intro m hm
      rcases (hm1 m).mp hm with z | rfl
      · exact h.sm m z
      · exact hn
  · rintro P pre x rest ⟨ℓ, τ2⟩ he ⟨e1, e2, S2, h2, t2, m2⟩ hP
    simp only at e1 e2 h2
    have hx : x ∉ pre := fun z => by
      rw [he, List.nodup_append] at hp
      exact hp.2.2 x z x (.head _) rfl
    have hxs := hps x (by rw [he]; simp)
    refine ⟨True.intro, ?_⟩
    have ht2 := h2.srt.t
    have hd2 := h2.srt.d
    rw [← t2] at e1
    have hl2 := h2.len
    repeat trivial
    refine C_getinfo (E := noE) (K := K) (by exact h2.srt) (by exact h2.keep) h2.out (by exact fun z => h2.zero x z) (by omega) ?_
    intro S3 τ3 h3 k3 o3 t3 r3 n3
    have hx3 : x ∈ S3.ns := by rw [n3]; split <;> simp_all
    have hm3 : ∀ m, m ∈ S3.ns ↔ m ∈ S2.ns ∨ m = x := fun m => by
      rw [n3]; split
      · constructor
        · exact .inl
        · rintro (z | rfl)
          · exact z
          · assumption
      · simp
    have hi3 := h3.info x hx3
    have hdd3 := h3.idd x hx3
    have hs3 := h3.sl x hx3
    rw [if_neg hx] at hs3
    repeat trivial
    have hnz : x ∉ S2.ns → succ x = [] := fun z => by have := (h2.zero x z).2; rwa [if_neg hx] at this
    refine lappend_go (by infer_instance) ?_ ?_
    · have := hb x; simp [cap]; omega
    refine hP _ ⟨by rw [← t2]; exact e1, e2, S3, ⟨?_, ?_, o3, ?_, ?_, by rw [r3, h2.rl]⟩, t3.trans t2, fun m => ?_⟩
    · have := h3.setsl hx3 (succ x ++ [n])
      rw [List.map_append] at this
      refine Eq.mp (congrArg (fun f => Srt ad _ S3 _ f [] 0 0) ?_) this
      funext m
      by_cases z : m = x
      · subst z; simp
      · simp [z]
    · exact k3.upd (o3 _ (.sl hx3))
    · intro m hm
      have hm2 : m ∉ S2.ns := fun z => hm ((hm3 m).mpr (.inl z))
      have hmx : m ≠ x := fun z => hm ((hm3 m).mpr (.inr z))
      have := h2.zero m hm2
      simpa [hmx] using this
    · intro m hm
      rcases (hm3 m).mp hm with z | rfl
      · exact h2.sm m z
      · exact hxs
    · rw [hm3, m2]; simp [or_assoc]
  · rintro ⟨ℓ, τ2⟩ ⟨e1, e2, S2, h2, t2, m2⟩
    exact ⟨True.intro, hQ S2 τ2 h2 t2 m2⟩
end
end
section
/-- a graph in the heap: a dict of lists -/
def Gr (τ : LH) (g : Nat) (ks : List Int) (pr : Int → List Int) : Prop := ∃ (pa : Int → Nat) (ep : Nat), τ g = some (.dict (ks.map fun k => (k, .ref (pa k))) ep) ∧ ∀ k ∈ ks, τ (pa k) = some (.list ((pr k).map .int))
theorem Gr.ext {τ τ' : LH} {g : Nat} {ks : List Int} {pr : Int → List Int} (h : Gr τ g ks pr) (e : Ext τ τ') : Gr τ' g ks pr :=
  let ⟨pa, ep, a, b⟩ := h; ⟨pa, ep, e _ _ a, fun k hk => e _ _ (b k hk)⟩
structure GrOk (ks : List Int) (pr : Int → List Int) : Prop where
  nodup : ks.Nodup
  sm : Sm ks
  pn : ∀ k ∈ ks, (pr k).Nodup
  sub : ∀ k ∈ ks, ∀ p ∈ pr k, p ∈ ks
section
variable {ad : Ad} {τ τ' : LH} {S S' : Sr} {np : Int → Int} {succ : Int → List Int} {rd : List Int} {po nf : Int}
set_option maxHeartbeats 4000000 in
theorem C_T {σ : LS} {g d a : Nat} {ks : List Int} {pr : Int → List Int} {Q : LV → LS → Prop} {E : LX → LS → Prop} (hda : d ≠ a) (hd : σ.heap d = none) (ha : σ.heap a = none) (hg : Gr σ.heap g ks pr) (hk : GrOk ks pr)
    (hQ : ∀ S τ', Fill ad σ.heap τ' S (fun m => if m ∈ ks then (pr m).length else 0) (fun m => ks.filter fun k => (pr k).contains m) → (∀ m, m ∈ S.ns ↔ m ∈ ks) → S.t = a → Q .none ⟨σ.loc, τ'⟩) :
    P_initT ad [.ref a, .ref g] Q E ((σ.put d (.attrs [])).put a (.inst ad.CT d [])) := by
  obtain ⟨pa, ep, hg1, hg2⟩ := hg
  have hgd : g ≠ d := ne_sn hg1 hd
  have hga : g ≠ a := ne_sn hg1 ha
  refine ⟨_, rfl, ?_⟩
  unfold B_initT
  trivial
  intro nd hnd
  have hna : nd ≠ a := by rintro rfl; simp [LS.put] at hnd
  have hnn : nd ≠ d := by rintro rfl; simp [LS.put, hda] at hnd
  have hnd' : σ.heap nd = none := by simpa [LS.put, hna, hnn] using hnd
  have hgn : g ≠ nd := ne_sn hg1 hnd'
  clear hnd
  repeat trivial
  rw [List.map_map]
  refine for_go (f := fun k => LV.tup [.int k, .ref (pa k)]) (fun pre _ σ' => σ'.loc "self" = some (.ref a) ∧ ∃ S, Fill ad σ.heap σ'.heap S (fun m => if m ∈ pre then (pr m).length else 0) (fun m => pre.filter fun k => (pr k).contains m) ∧ S.t = a ∧ (∀ m, m ∈ S.ns ↔ m ∈ pre ∨ ∃ k ∈ pre, m ∈ pr k)) ks ?_ ?_ ?_
  · refine ⟨rfl, ⟨a, d, nd, [], fun _ => 0, fun _ => 0, fun _ => 0, none⟩, ⟨⟨?_, ?_, ⟨0, ?_⟩, ?_, ?_, ?_, ?_, ?_, ?_⟩, ?_, ?_, ?_, ?_, rfl⟩, rfl, by simp⟩
    · exact upd_ne hda.symm (upd_ne hda.symm (upd_ne hda.symm (upd_ne hda.symm (upd_ne hna.symm upd_same))))
    · exact upd_same
    · exact upd_ne hnn (upd_ne hnn (upd_ne hnn (upd_ne hnn upd_same)))
    · intro n hn; exact absurd hn (by simp)
    · intro n hn; exact absurd hn (by simp)
    · intro n hn; exact absurd hn (by simp)
    · intro n hn; exact absurd hn (by simp)
    · exact List.nodup_nil
    · intro n hn; exact absurd hn (by simp)
    · exact (((((((Ext.rfl'.upd hd).upd ha).upd hnd').upd hd).upd hd).upd hd).upd hd)
    · intro b hb
      rcases hb with z | z | z | z | ⟨m, hm, z⟩
      · exact z ▸ ha
      · exact z ▸ hd
      · exact z ▸ hnd'
      · exact absurd z (by simp)
      · exact absurd hm (by simp)
    · intro m hm; simp
    · intro m hm; exact absurd hm (by simp)
  · rintro P pre x rest ⟨ℓ, τ2⟩ he ⟨e1, S2, h2, t2, m2⟩ hP
    simp only at e1 h2
    have hE := h2.keep
    have ht2 := h2.srt.t
    have hd2 := h2.srt.d
    have hx := hg2 x (by rw [he]; simp)
    refine ⟨by infer_instance, ?_⟩
    rw [← t2] at e1
    repeat trivial
    have hxk : x ∈ ks := by rw [he]; simp
    have hxp : x ∉ pre := fun z => by
      have := hk.nodup
      rw [he, List.nodup_append] at this
      exact this.2.2 x z x (.head _) rfl
    have hpl : pre.length ≤ 20 := by
      have h1 := ss_len hk.nodup hk.sm
      have h2 : ks.length = pre.length + (rest.length + 1) := by rw [he]; simp
      omega
    refine C_add (E := noE) (K := σ.heap) (by exact h2) (hk.sm x hxk) (hk.pn x hxk) (fun p hp => hk.sm p (hk.sub x hxk p hp)) (fun m => ?_) ?_
    · have := List.length_filter_le (fun k => (pr k).contains m) pre
      show (pre.filter fun k => (pr k).contains m).length ≤ 1000
      omega
    · intro S3 τ3 h3 t3 m3
      refine hP _ ⟨?_, S3, ?_, t3.trans t2, fun m => ?_⟩
      · rw [← t2]; exact e1
      · refine Eq.mp ?_ h3
        congr 1
        · funext m
          by_cases z : m = x
          · subst z; simp [hxp]
          · simp [z]
        · funext m
          rw [List.filter_append]
          by_cases z : m ∈ pr x
          · simp [z]
          · simp [z]
      · rw [m3, m2]
        constructor
        · rintro ((z | ⟨k, k1, k2⟩) | rfl | z)
          · exact .inl (by simp [z])
          · exact .inr ⟨k, by simp [k1], k2⟩
          · exact .inl (by simp)
          · exact .inr ⟨x, by simp, z⟩
        · rintro (z | ⟨k, k1, k2⟩)
          · rcases List.mem_append.mp z with y | y
            · exact .inl (.inl y)
            · exact .inr (.inl (by simpa using y))
          · rcases List.mem_append.mp k1 with y | y
            · exact .inl (.inr ⟨k, y, k2⟩)
            · have : k = x := by simpa using y
              subst this
              exact .inr (.inr k2)
  · rintro ⟨ℓ, τ2⟩ ⟨e1, S2, h2, t2, m2⟩
    simp only at e1 h2
    have hE := h2.keep
    refine ⟨by infer_instance, ?_⟩
    refine hQ S2 τ2 h2 (fun m => ?_) t2
    rw [m2]
    exact ⟨fun z => z.elim id fun ⟨k, k1, k2⟩ => hk.sub k k1 m k2, .inl⟩
end
end
section
/-- a frame of the search: node, its iterator, how far it has come -/
abbrev Fm := Int × Nat × Nat
/-- the search for a ring, on its way -/
structure DF (K : LH) (S : Sr) (r : Int → Nat) (st it se dk : Nat) (fr : List Fm) (Sn : Int → Bool) (τ : LH) : Prop where
  ext : Ext K τ
  hst : τ st = some (.list (fr.map fun f => .int f.1))
  hit : τ it = some (.list (fr.map fun f => .nxt f.2.1))
  hse : τ se = some (.set Sn (S.ns.filter Sn).length)
  hdk : ∃ es ep, τ dk = some (.dict es ep) ∧ es.map (·.1) = fr.map (·.1)
  fm : ∀ f ∈ fr, f.1 ∈ S.ns ∧ τ f.2.1 = some (.iter (S.sl f.1) f.2.2) ∧ K f.2.1 = none ∧ Sn f.1 = true
  nd : (fr.map (·.2.1)).Nodup
  inc : fr.Pairwise fun a b => r a.1 < r b.1
  k1 : K st = none
  k2 : K it = none
  k3 : K se = none
  k4 : K dk = none
  ne : st ≠ it
def mu (ns : List Int) (succ : Int → List Int) (fr : List Fm) (Sn : Int → Bool) : Nat := ((ns.filter fun n => !Sn n).map fun n => (succ n).length + 2).sum + (fr.map fun f => (succ f.1).length - f.2.2 + 1).sum
def dela (τ : LH) (a : Nat) : LH := fun b => if b = a then none else τ b
theorem dela_ne {τ : LH} {a b : Nat} {v : Option LO} (h : b ≠ a) (k : τ b = v) : dela τ a b = v := by simp [dela, h, k]
theorem sum_drop (g : Int → Nat) (p q : Int → Bool) (x : Int) : ∀ {ns : List Int}, ns.Nodup → x ∈ ns → p x = true → (∀ n, q n = (p n && decide (n ≠ x))) → ((ns.filter p).map g).sum = ((ns.filter q).map g).sum + g x
  | [], _, h, _, _ => by simp at h
  | n :: ns, hn, h, hp, hq => by
    rw [List.nodup_cons] at hn
    by_cases e : n = x
    · subst e
      have : ns.filter q = ns.filter p := List.filter_congr fun m hm => by
        rw [hq]; have : m ≠ n := fun z => hn.1 (z ▸ hm)
        simp [this]
      rw [List.filter_cons_of_pos hp, List.filter_cons_of_neg (by rw [hq]; simp), this]
      simp; omega
    · have hx : x ∈ ns := by simpa [Ne.symm e] using h
      have ih := sum_drop g p q x hn.2 hx hp hq
      have hqn : q n = p n := by rw [hq]; simp [e]
      cases hc : p n with
      | true =>
        rw [List.filter_cons_of_pos hc, List.filter_cons_of_pos (by rw [hqn, hc])]
        simp; omega
      | false =>
        rw [List.filter_cons_of_neg (by simp [hc]), List.filter_cons_of_neg (by simp [hqn, hc])]
        exact ih
theorem dlook {es : List (Int × LV)} {k : Int} : (es.lookup k).isSome = true ↔ k ∈ es.map (·.1) := by
  induction es with
  | nil => simp
  | cons a es ih =>
    obtain ⟨n, v⟩ := a
    rw [List.lookup_cons]
    by_cases e : k = n
    · subst e; simp
    · rw [beq_eq_false_iff_ne.mpr e]; simp [ih, e]
section
variable {ad : Ad} {K τ : LH} {S : Sr} {succ : Int → List Int} {r : Int → Nat} {st it se dk : Nat} {fr : List Fm} {Sn : Int → Bool}
theorem DF.push (h : DF K S r st it se dk fr Sn τ) (hnd : S.ns.Nodup) {x : Int} {d : Nat} (hx : x ∈ S.ns) (hs : Sn x = false) (hr : ∀ f ∈ fr, r f.1 < r x) {es : List (Int × LV)} {ep ep' : Nat} (he : τ dk = some (.dict es ep)) (hes : es.map (·.1) = fr.map (·.1)) {v : LV} (hd : τ d = none) :
    DF K S r st it se dk (fr ++ [(x, d, 0)]) (fun k' => Sn k' || decide (k' = x)) (upd (upd (upd (upd (upd τ se (.set (fun k' => Sn k' || decide (k' = x)) ((S.ns.filter Sn).length + 1))) d (.iter (S.sl x) 0)) it (.list (fr.map (fun f => LV.nxt f.2.1) ++ [.nxt d]))) dk (.dict (es ++ [(x, v)]) ep')) st (.list (fr.map (fun f => LV.int f.1) ++ [.int x]))) := by
  have a1 : st ≠ d := ne_sn h.hst hd
  have a2 : it ≠ d := ne_sn h.hit hd
  have a3 : se ≠ d := ne_sn h.hse hd
  have a4 : dk ≠ d := ne_sn he hd
  have b1 : se ≠ st := ne_oo h.hse h.hst (by simp)
  have b2 : se ≠ it := ne_oo h.hse h.hit (by simp)
  have b3 : se ≠ dk := ne_oo h.hse he (by simp)
  have b4 : dk ≠ st := ne_oo he h.hst (by simp)
  have b5 : dk ≠ it := ne_oo he h.hit (by simp)
  have kd : K d = none := h.ext.none hd
  refine ⟨?_, ?_, ?_, ?_, ⟨es ++ [(x, v)], ep', ?_, ?_⟩, ?_, ?_, ?_, h.k1, h.k2, h.k3, h.k4, h.ne⟩
  · exact (((((h.ext.upd h.k3).upd kd).upd h.k2).upd h.k4).upd h.k1)
  · rw [upd_same]; simp
  · rw [upd_ne h.ne.symm (upd_ne b5.symm upd_same)]; simp
  · rw [upd_ne b1 (upd_ne b3 (upd_ne b2 (upd_ne a3 upd_same)))]
    congr 2
    have := sum_drop (fun _ => 1) (fun k' => Sn k' || decide (k' = x)) Sn x hnd hx (by simp) (fun n => by
      by_cases e : n = x
      · subst e; simp [hs]
      · simp [e])
    simpa [List.map_const', List.sum_replicate_nat] using this.symm
  · exact upd_ne b4 upd_same
  · simp [hes]
  · intro f hf
    rcases List.mem_append.mp hf with z | z
    · obtain ⟨f1, f2, f3, f4⟩ := h.fm f z
      refine ⟨f1, ?_, f3, by simp [f4]⟩
      exact upd_ne (ne_oo f2 h.hst (by simp)) (upd_ne (ne_oo f2 he (by simp)) (upd_ne (ne_oo f2 h.hit (by simp)) (upd_ne (ne_sn f2 hd) (upd_ne (ne_oo f2 h.hse (by simp)) f2))))
    · rw [List.mem_singleton] at z; subst z
      refine ⟨hx, ?_, kd, by simp⟩
      exact upd_ne a1.symm (upd_ne a4.symm (upd_ne a2.symm upd_same))
  · rw [List.map_append, List.nodup_append]
    refine ⟨h.nd, by simp, fun a ha b hb => ?_⟩
    obtain ⟨f, hf, rfl⟩ := List.mem_map.mp ha
    have : b = d := by simpa using hb
    rw [this]; exact ne_sn (h.fm f hf).2.1 hd
  · rw [List.pairwise_append]
    exact ⟨h.inc, by simp, fun a ha b hb => by rw [List.mem_singleton] at hb; subst hb; exact hr a ha⟩
theorem mu_push {ns : List Int} (hnd : ns.Nodup) {x : Int} {d : Nat} (hx : x ∈ ns) (hs : Sn x = false) : mu ns succ (fr ++ [(x, d, 0)]) (fun k' => Sn k' || decide (k' = x)) < mu ns succ fr Sn := by
  unfold mu
  have := sum_drop (fun n => (succ n).length + 2) (fun n => !Sn n) (fun k' => !(Sn k' || decide (k' = x))) x hnd hx (by simp [hs]) (fun n => by simp)
  rw [this]
  simp
  omega
theorem DF.next {x : Int} {a p : Nat} (h : DF K S r st it se dk (fr ++ [(x, a, p)]) Sn τ) : DF K S r st it se dk (fr ++ [(x, a, p + 1)]) Sn (upd τ a (.iter (S.sl x) (p + 1))) := by
  obtain ⟨f1, f2, f3, f4⟩ := h.fm (x, a, p) (by simp)
  obtain ⟨es, ep, he, hes⟩ := h.hdk
  refine ⟨h.ext.upd f3, ?_, ?_, upd_ne (ne_oo h.hse f2 (by simp)) h.hse, ⟨es, ep, upd_ne (ne_oo he f2 (by simp)) he, by simpa using hes⟩, ?_, ?_, ?_, h.k1, h.k2, h.k3, h.k4, h.ne⟩
  · rw [upd_ne (ne_oo h.hst f2 (by simp)) h.hst]; simp
  · rw [upd_ne (ne_oo h.hit f2 (by simp)) h.hit]; simp
  · intro f hf
    rcases List.mem_append.mp hf with z | z
    · obtain ⟨g1, g2, g3, g4⟩ := h.fm f (by simp [z])
      refine ⟨g1, upd_ne ?_ g2, g3, g4⟩
      have := h.nd
      rw [List.map_append, List.nodup_append] at this
      exact this.2.2 _ (List.mem_map_of_mem z) a (by simp)
    · rw [List.mem_singleton] at z; subst z
      exact ⟨f1, upd_same, f3, f4⟩
  · simpa using h.nd
  · have := h.inc
    rw [List.pairwise_append] at this ⊢
    exact ⟨this.1, by simp, fun b hb c hc => by rw [List.mem_singleton] at hc; subst hc; exact this.2.2 b hb (x, a, p) (by simp)⟩
theorem mu_next {ns : List Int} {x : Int} {a p : Nat} (hp : p < (succ x).length) : mu ns succ (fr ++ [(x, a, p + 1)]) Sn < mu ns succ (fr ++ [(x, a, p)]) Sn := by
  unfold mu; simp; omega
theorem DF.pop {x : Int} {a p : Nat} (h : DF K S r st it se dk (fr ++ [(x, a, p)]) Sn τ) {es : List (Int × LV)} {ep ep' : Nat} (he : τ dk = some (.dict es ep)) (hes : es.map (·.1) = (fr ++ [(x, a, p)]).map (·.1)) :
    DF K S r st it se dk fr Sn (upd (upd (upd (dela τ a) st (.list (fr.map fun f => LV.int f.1))) dk (.dict (ddel es x) ep')) it (.list (fr.map fun f => LV.nxt f.2.1))) := by
  obtain ⟨f1, f2, f3, f4⟩ := h.fm (x, a, p) (by simp)
  have b1 : se ≠ st := ne_oo h.hse h.hst (by simp)
  have b2 : se ≠ it := ne_oo h.hse h.hit (by simp)
  have b3 : se ≠ dk := ne_oo h.hse he (by simp)
  have b4 : dk ≠ st := ne_oo he h.hst (by simp)
  have b5 : dk ≠ it := ne_oo he h.hit (by simp)
  have hinc := h.inc
  rw [List.pairwise_append] at hinc
  refine ⟨?_, upd_ne h.ne (upd_ne b4.symm upd_same), upd_same, upd_ne b2 (upd_ne b3 (upd_ne b1 (dela_ne (ne_oo h.hse f2 (by simp)) h.hse))), ⟨_, ep', upd_ne b5 upd_same, ?_⟩, ?_, ?_, hinc.1, h.k1, h.k2, h.k3, h.k4, h.ne⟩
  · refine (((?_ : Ext K (dela τ a)).upd h.k1).upd h.k4).upd h.k2
    intro b o e
    exact dela_ne (ne_sn e f3) (h.ext b o e)
  · have e1 : (ddel es x).map (·.1) = (es.map (·.1)).filter fun k => decide (k ≠ x) := by
      unfold ddel; rw [List.filter_map]; rfl
    rw [e1, hes, List.map_append, List.filter_append]
    simp only [List.map_cons, List.map_nil]
    rw [List.filter_eq_self.mpr, List.filter_eq_nil_iff.mpr, List.append_nil]
    · intro b hb; simp at hb; simp [hb]
    · intro b hb
      obtain ⟨f, hf, rfl⟩ := List.mem_map.mp hb
      have := hinc.2.2 f hf (x, a, p) (by simp)
      simp only [decide_eq_true_eq]
      intro z
      rw [z] at this
      exact absurd this (Nat.lt_irrefl _)
  · intro f hf
    obtain ⟨g1, g2, g3, g4⟩ := h.fm f (by simp [hf])
    refine ⟨g1, ?_, g3, g4⟩
    have hn := h.nd
    rw [List.map_append, List.nodup_append] at hn
    have hne : f.2.1 ≠ a := hn.2.2 _ (List.mem_map_of_mem hf) a (by simp)
    exact upd_ne (ne_oo g2 h.hit (by simp)) (upd_ne (ne_oo g2 he (by simp)) (upd_ne (ne_oo g2 h.hst (by simp)) (dela_ne hne g2)))
  · have := h.nd
    rw [List.map_append, List.nodup_append] at this
    exact this.1
theorem mu_pop {ns : List Int} {x : Int} {a p : Nat} : mu ns succ fr Sn < mu ns succ (fr ++ [(x, a, p)]) Sn := by
  unfold mu; simp
end
end
section
section
variable {ad : Ad} {K τ : LH} {S : Sr} {np : Int → Int} {succ : Int → List Int} {rd : List Int} {po nf : Int} {r : Int → Nat} {st it se dk : Nat}
def cycIn : PTx LF := (pwhile (pbind (pget "stack") ptruth) (fun Q E σ => (pseq
  (pbind (pbind (pbind (pget "itstack") fun a => pbind (pbind (pret (.int 1)) pneg) fun b => pllast a b) pnextc) fun v => pbind (pset "node" v) fun _ => pret .next)
  (pret .brk)) Q (fun x σ' => x.name = "StopIteration" ∧ (pseq
  (pbind (pget "node2stacki") fun a => pbind (pbind (pget "stack") fun a => pbind (pislist a) fun _ => pbind (pret []) fun as => plpop a as) fun b => pbind (pddel a b) fun _ => pret .next)
  (pbind (pbind (pget "itstack") fun a => pbind (pislist a) fun _ => pbind (pret []) fun as => plpop a as) fun _ => pret .next)) Q noE σ') σ) (pret .brk))
/-- the names of the search -/
structure CL (S : Sr) (st it se dk : Nat) (ℓ : String → Option LV) : Prop where
  n : ℓ "n2i" = some (.ref S.nd)
  s : ℓ "stack" = some (.ref st)
  i : ℓ "itstack" = some (.ref it)
  e : ℓ "seen" = some (.ref se)
  d : ℓ "node2stacki" = some (.ref dk)
set_option maxHeartbeats 4000000 in
theorem cyc_in {fr : List Fm} {Sn : Int → Bool} {ℓ : String → Option LV} {QI : LF → LS → Prop} (h : Srt ad K S np succ rd po nf) (hr : ∀ n ∈ S.ns, ∀ m ∈ succ n, m ∈ S.ns ∧ r n < r m) (hc : CL S st it se dk ℓ) (hf : DF K S r st it se dk fr Sn τ)
    (q1 : ∀ ℓ' τ' fr' x, CL S st it se dk ℓ' → ℓ' "node" = some (.int x) → DF K S r st it se dk fr' Sn τ' → x ∈ S.ns → (∀ f ∈ fr', r f.1 < r x) → mu S.ns succ fr' Sn < mu S.ns succ fr Sn → QI .next ⟨ℓ', τ'⟩)
    (q2 : ∀ ℓ' τ', CL S st it se dk ℓ' → DF K S r st it se dk [] Sn τ' → QI .brk ⟨ℓ', τ'⟩) : cycIn QI noE ⟨ℓ, τ⟩ := by
  unfold cycIn
  refine while_go (fun n σ' => ∃ fr', fr'.length = n ∧ mu S.ns succ fr' Sn ≤ mu S.ns succ fr Sn ∧ CL S st it se dk σ'.loc ∧ DF K S r st it se dk fr' Sn σ'.heap) _ ⟨fr, rfl, Nat.le_refl _, hc, hf⟩ ?_
  rintro P n ⟨ℓ', τ'⟩ ⟨fr', hn, hmu, hc', hf'⟩ hP
  simp only at hc' hf'
  obtain ⟨c1, c2, c3, c4, c5⟩ := hc'
  have hst := hf'.hst
  have hit := hf'.hit
  obtain ⟨es, ep, he, hes⟩ := hf'.hdk
  repeat trivial
  rcases List.eq_nil_or_concat fr' with rfl | ⟨fr'', ⟨x, a, p⟩, rfl⟩
  · exact q2 _ _ ⟨c1, c2, c3, c4, c5⟩ hf'
  · rw [List.concat_eq_append] at *
    refine if_true' (by simp) ?_
    obtain ⟨f1, f2, f3, f4⟩ := hf'.fm (x, a, p) (by simp)
    simp only at f1 f2
    have hsl := hf'.ext _ _ (h.sl x f1)
    repeat trivial
    refine llast_go (v := .nxt a) hit (by simp) ?_
    refine nextc_go f2 hsl ?_
    rw [List.getElem?_map]
    by_cases hp : p < (succ x).length
    · rw [List.getElem?_eq_getElem hp]
      obtain ⟨m1, m2⟩ := hr x f1 (succ x)[p] (List.getElem_mem hp)
      refine q1 _ _ (fr'' ++ [(x, a, p + 1)]) (succ x)[p] ⟨c1, c2, c3, c4, c5⟩ rfl hf'.next m1 (fun f hf => ?_) ?_
      · rcases List.mem_append.mp hf with z | z
        · have := hf'.inc
          rw [List.pairwise_append] at this
          have := this.2.2 f z (x, a, p) (by simp)
          simp only at this
          omega
        · rw [List.mem_singleton] at z; subst z; exact m2
      · have := mu_next (ns := S.ns) (fr := fr'') (Sn := Sn) (a := a) hp
        omega
    · rw [List.getElem?_eq_none (by omega)]
      refine ⟨rfl, ?_⟩
      have hst' : (LS.del ⟨ℓ', τ'⟩ a).heap st = some (.list ((fr'' ++ [(x, a, p)]).map fun f => .int f.1)) := dela_ne (ne_oo hst f2 (by simp)) hst
      have hit' : (LS.del ⟨ℓ', τ'⟩ a).heap it = some (.list ((fr'' ++ [(x, a, p)]).map fun f => .nxt f.2.1)) := dela_ne (ne_oo hit f2 (by simp)) hit
      have he' : (LS.del ⟨ℓ', τ'⟩ a).heap dk = some (.dict es ep) := dela_ne (ne_oo he f2 (by simp)) he
      have d1 : dk ≠ st := ne_oo he hst (by simp)
      have d2 : dk ≠ it := ne_oo he hit (by simp)
      have d3 := hf'.ne
      repeat trivial
      refine lpop_go (v := .int x) hst' (by simp) ?_
      refine ddel_go (ep := ep) (es := es) (by exact upd_ne d1 he') (dlook.mpr (by rw [hes]; simp)) (fun ep' => ?_)
      repeat trivial
      refine lpop_go (v := .nxt a) (by exact upd_ne d2.symm (upd_ne d3.symm hit')) (by simp) ?_
      have hpop := hf'.pop he hes (ep' := ep')
      refine hP _ _ ?_ ⟨fr'', rfl, ?_, ⟨c1, c2, c3, c4, c5⟩, ?_⟩
      · simp at hn; omega
      · have := mu_pop (ns := S.ns) (succ := succ) (fr := fr'') (Sn := Sn) (x := x) (a := a) (p := p); omega
      · simp only [List.map_append, List.map_cons, List.map_nil, List.dropLast_concat]
        exact hpop
end
end
section
section
variable {ad : Ad} {K τ : LH} {S : Sr} {np : Int → Int} {succ : Int → List Int} {rd : List Int} {po nf : Int} {r : Int → Nat} {st it se dk : Nat}
set_option maxHeartbeats 4000000 in
theorem C_find_cycle {σ : LS} {Q : LV → LS → Prop} {E : LX → LS → Prop} (h : Srt ad σ.heap S np succ rd po nf) (hsm : Sm S.ns) (hr : ∀ n ∈ S.ns, ∀ m ∈ succ n, m ∈ S.ns ∧ r n < r m)
    (hQ : ∀ τ', Ext σ.heap τ' → Q .none ⟨σ.loc, τ'⟩) : P_find_cycle ad [.ref S.t] Q E σ := by
  refine ⟨_, rfl, ?_⟩
  unfold B_find_cycle
  have ht := h.t
  have hd := h.d
  obtain ⟨epn, hn⟩ := h.nd
  have hlen := ss_len h.nodup hsm
  repeat trivial
  intro st hst
  repeat trivial
  intro it hit
  repeat trivial
  intro se hse
  repeat trivial
  intro dk hdk
  have k1 : σ.heap st = none := hst
  have n1 : it ≠ st := by rintro rfl; simp [LS.set, upd] at hit
  have k2 : σ.heap it = none := by simpa [LS.set, upd, n1] using hit
  have n2 : se ≠ st := by rintro rfl; simp [LS.set, upd, n1.symm] at hse
  have n3 : se ≠ it := by rintro rfl; simp [LS.set, upd] at hse
  have k3 : σ.heap se = none := by simpa [LS.set, upd, n2, n3] using hse
  have n4 : dk ≠ st := by rintro rfl; simp [LS.set, upd, n1.symm, n2.symm] at hdk
  have n5 : dk ≠ it := by rintro rfl; simp [LS.set, upd, n3.symm] at hdk
  have n6 : dk ≠ se := by rintro rfl; simp [LS.set, upd] at hdk
  have k4 : σ.heap dk = none := by simpa [LS.set, upd, n4, n5, n6] using hdk
  clear hst hit hse hdk
  have e1 : S.nd ≠ st := ne_sn hn k1
  have e2 : S.nd ≠ it := ne_sn hn k2
  have e3 : S.nd ≠ se := ne_sn hn k3
  have e4 : S.nd ≠ dk := ne_sn hn k4
  repeat trivial
  rw [List.map_map]
  refine for_go (f := fun n => LV.int n) (fun pre _ σ' => CL S st it se dk σ'.loc ∧ ∃ Sn, DF σ.heap S r st it se dk [] Sn σ'.heap) S.ns ?_ ?_ ?_
  · refine ⟨⟨rfl, rfl, rfl, rfl, rfl⟩, fun _ => false, ⟨(((Ext.rfl'.upd k1).upd k2).upd k3).upd k4, ?_, ?_, ?_, ⟨[], 0, upd_same, rfl⟩, ?_, ?_, ?_, k1, k2, k3, k4, n1.symm⟩⟩
    · exact upd_ne n4.symm (upd_ne n2.symm (upd_ne n1.symm upd_same))
    · exact upd_ne n5.symm (upd_ne n3.symm upd_same)
    · refine upd_ne n6.symm (upd_same.trans ?_)
      rw [List.filter_eq_nil_iff.mpr (by simp)]; rfl
    · intro f hf; simp at hf
    · simp
    · exact .nil
  · rintro P pre x rest ⟨ℓ, τ⟩ hx ⟨⟨c1, c2, c3, c4, c5⟩, Sn, hf⟩ hP
    simp only at c1 c2 c3 c4 c5 hf
    have hxn : x ∈ S.ns := by rw [hx]; simp
    refine ⟨hf.ext _ _ hn, ?_⟩
    have hse := hf.hse
    repeat trivial
    refine if_both (fun hs => ?_) (fun hs => ?_)
    · exact hP _ ⟨⟨c1, c2, c3, c4, c5⟩, Sn, hf⟩
    · refine while_go (fun n σ' => ∃ fr Sn x, mu S.ns succ fr Sn = n ∧ CL S st it se dk σ'.loc ∧ σ'.loc "node" = some (.int x) ∧ x ∈ S.ns ∧ (∀ f ∈ fr, r f.1 < r x) ∧ DF σ.heap S r st it se dk fr Sn σ'.heap) _ ⟨[], Sn, x, rfl, ⟨c1, c2, c3, c4, c5⟩, rfl, hxn, by simp, hf⟩ ?_
      clear hf hs hse
      rintro P2 n ⟨ℓ2, τ2⟩ ⟨fr, Sn2, y, hn2, ⟨c1, c2, c3, c4, c5⟩, ey, hy, hry, hf⟩ hP2
      simp only at c1 c2 c3 c4 c5 hf ey
      have hse := hf.hse
      have hst := hf.hst
      have hit := hf.hit
      obtain ⟨es, ep, he, hes⟩ := hf.hdk
      repeat trivial
      refine if_both (fun hs => ?_) (fun hs => ?_)
      · repeat trivial
        refine if_false' ?_ ?_
        · rw [Bool.eq_false_iff]
          intro z
          rw [dlook, hes] at z
          obtain ⟨f, h1, h2⟩ := List.mem_map.mp z
          have := hry f h1
          rw [h2] at this
          omega
        · refine cyc_in h hr ⟨c1, c2, c3, c4, c5⟩ hf ?_ ?_
          · intro ℓ' τ' fr' z d1 d2 d3 d4 d5 d6
            exact hP2 _ _ (hn2 ▸ d6) ⟨fr', Sn2, z, rfl, d1, d2, d4, d5, d3⟩
          · intro ℓ' τ' d1 d2
            exact hP _ ⟨d1, Sn2, d2⟩
      · have hE := hf.ext
        have hi := hE _ _ (h.info y hy)
        have hid := hE _ _ (h.idd y hy)
        have hsl := hE _ _ (h.sl y hy)
        have hnE := hE _ _ hn
        repeat trivial
        refine sadd_go hse ?_ ?_
        · have := List.length_filter_le Sn2 S.ns; omega
        rw [hs]
        have g1 : it ≠ se := ne_oo hit hse (by simp)
        have g2 : st ≠ se := ne_oo hst hse (by simp)
        have g3 : dk ≠ se := ne_oo he hse (by simp)
        have g4 : S.info y ≠ se := ne_oo hi hse (by simp)
        have g5 : S.idd y ≠ se := ne_oo hid hse (by simp)
        have g6 : S.sl y ≠ se := ne_oo hsl hse (by simp)
        have lk : (S.ns.map fun n => (n, LV.ref (S.info n))).lookup y = some (.ref (S.info y)) := by rw [lookup_map, if_pos hy]
        repeat trivial
        intro d hdd
        have hd2 : d ≠ se := by rintro rfl; simp [upd] at hdd
        have hd3 : τ2 d = none := by simpa [upd, hd2] using hdd
        have j1 : it ≠ d := ne_sn hit hd3
        have j2 : st ≠ d := ne_sn hst hd3
        have j3 : dk ≠ d := ne_sn he hd3
        repeat trivial
        have hfl : fr.length ≤ 20 := by
          have : (fr.map (·.1)).Nodup := by
            rw [List.Nodup, List.pairwise_map]
            exact hf.inc.imp fun {a b} h z => by rw [z] at h; omega
          have := ss_len this (fun a ha => by
            obtain ⟨f, f1, rfl⟩ := List.mem_map.mp ha
            exact hsm _ (hf.fm f f1).1)
          simpa using this
        refine lappend_go (by infer_instance) (by simp [cap]; omega) ?_
        repeat trivial
        refine dset_go (by infer_instance) ?_ (fun ep' => ?_)
        · have := congrArg List.length hes
          simp at this
          simp [cap]; omega
        have hyn : es.lookup y = none := by
          cases hz : es.lookup y with
          | none => rfl
          | some v =>
            have : y ∈ es.map (·.1) := dlook.mp (by rw [hz]; rfl)
            rw [hes] at this
            obtain ⟨f, f1, f2⟩ := List.mem_map.mp this
            have := hry f f1
            rw [f2] at this; omega
        rw [dput_new hyn]
        have n7 : st ≠ it := n1.symm
        have n8 : st ≠ dk := n4.symm
        repeat trivial
        refine lappend_go (xs := fr.map fun f => .int f.1) (by infer_instance) (by simp [cap]; omega) ?_
        have hpush := hf.push h.nodup hy hs hry he hes (v := .int (fr.map fun f => LV.int f.1).length) (ep' := ep') hd3
        have hmu := mu_push (succ := succ) (fr := fr) (d := d) h.nodup hy hs
        refine cyc_in h hr ⟨c1, c2, c3, c4, c5⟩ hpush ?_ ?_
        · intro ℓ' τ' fr' z d1 d2 d3 d4 d5 d6
          exact hP2 _ _ (by omega) ⟨fr', _, z, rfl, d1, d2, d4, d5, d3⟩
        · intro ℓ' τ' d1 d2
          exact hP _ ⟨d1, _, d2⟩
  · rintro ⟨ℓ, τ⟩ ⟨c, Sn, hf⟩
    simp only at hf
    refine ⟨hf.ext _ _ hn, ?_⟩
    repeat trivial
    exact hQ _ hf.ext
end
end
section
/-- what a node's counter holds: O handed out, D done -/
def npOf (pr : Int → List Int) (O D : List Int) (n : Int) : Int := if n ∈ D then -2 else if n ∈ O then -1 else (((pr n).filter fun p => !D.contains p).length : Nat)
def scOf (ks : List Int) (pr : Int → List Int) (m : Int) : List Int := ks.filter fun k => (pr k).contains m
/-- a sorter at work -/
structure Sor (ad : Ad) (τ : LH) (S : Sr) (ks : List Int) (pr : Int → List Int) (O D rd : List Int) : Prop where
  srt : Srt ad τ S (npOf pr O D) (scOf ks pr) rd O.length D.length
  mem : ∀ m, m ∈ S.ns ↔ m ∈ ks
  rl : ∃ a, S.rl = some a
  rdn : rd.Nodup
  rdm : ∀ n, n ∈ rd ↔ n ∈ ks ∧ n ∉ O ∧ ∀ p ∈ pr n, p ∈ D
  od : O.Nodup
  dd : D.Nodup
  dO : ∀ n ∈ D, n ∈ O
  ok : ∀ n ∈ O, n ∈ ks
  op : ∀ n ∈ O, ∀ p ∈ pr n, p ∈ D
section
variable {ad : Ad} {K τ τ' : LH} {S : Sr} {ks : List Int} {pr : Int → List Int} {O D rd : List Int} {np np' : Int → Int} {succ succ' : Int → List Int} {po nf : Int} {r : Int → Nat}
theorem Srt.congr (h : Srt ad τ S np succ rd po nf) (e : ∀ n ∈ S.ns, np n = np' n) (e2 : ∀ n ∈ S.ns, succ n = succ' n) : Srt ad τ S np' succ' rd po nf :=
  ⟨h.t, h.d, h.nd, fun n hn => by rw [← e n hn]; exact h.info n hn, h.idd, fun n hn => by rw [← e2 n hn]; exact h.sl n hn, h.slinj, h.nodup, h.rl⟩
theorem Sor.ext (h : Sor ad τ S ks pr O D rd) (k : Ext τ τ') : Sor ad τ' S ks pr O D rd := ⟨h.srt.ext k, h.mem, h.rl, h.rdn, h.rdm, h.od, h.dd, h.dO, h.ok, h.op⟩
theorem Sor.put (h : Sor ad τ S ks pr O D rd) {b : Nat} {o : LO} (k : ¬ S.Foot b) : Sor ad (upd τ b o) S ks pr O D rd := ⟨h.srt.put k, h.mem, h.rl, h.rdn, h.rdm, h.od, h.dd, h.dO, h.ok, h.op⟩
theorem Sor.foot (h : Sor ad τ S ks pr O D rd) {b : Nat} (k : τ b = none) : ¬ S.Foot b := fun f => by
  obtain ⟨o, e⟩ := h.srt.foot f; rw [k] at e; cases e

set_option maxHeartbeats 4000000 in
theorem C_prepare {σ : LS} {Q : LV → LS → Prop} {E : LX → LS → Prop} (hF : Fill ad K σ.heap S (fun m => if m ∈ ks then (pr m).length else 0) (fun m => ks.filter fun k => (pr k).contains m)) (hm : ∀ m, m ∈ S.ns ↔ m ∈ ks) (hk : GrOk ks pr) (hr : ∀ k ∈ ks, ∀ p ∈ pr k, r p < r k)
    (hQ : ∀ S' τ' rd, Sor ad τ' S' ks pr [] [] rd → Ext K τ' → (∀ b, S'.Foot b → K b = none) → S'.t = S.t → Q .none ⟨σ.loc, τ'⟩) : P_prepare ad [.ref S.t] Q E σ := by
  refine ⟨_, rfl, ?_⟩
  unfold B_prepare
  have ht := hF.srt.t
  have hd := hF.srt.d
  simp only [topAt, rlV, hF.rl] at hd
  obtain ⟨epn, hn⟩ := hF.srt.nd
  have hlen := hF.len
  repeat trivial
  intro D hD
  have hD' : σ.heap D = none := hD
  rw [List.map_map]
  have dt : S.t ≠ D := ne_sn ht hD'
  have ddd : S.d ≠ D := ne_sn hd hD'
  have dn : S.nd ≠ D := ne_sn hn hD'
  have hm' : ∀ m ∈ S.ns, m ∈ ks := fun m h => (hm m).mp h
  refine comp_go (f := fun n => LV.ref (S.info n)) (fun n => decide ((pr n).length = 0)) (fun n => .int n) (by unfold cap; omega) (fun ℓ' acc => by exact upd_ne dn hn) (fun n hn acc ℓ' hℓ => ?_) ?_
  · have hi := hF.srt.info n hn
    have hid := hF.srt.idd n hn
    rw [if_pos (hm' n hn)] at hi
    have a1 : S.info n ≠ D := ne_sn hi hD'
    have a2 : S.idd n ≠ D := ne_sn hid hD'
    refine ⟨fun y => if y = "i" then some (.ref (S.info n)) else ℓ' y, fun y hy => ?_, fun K h => h, fun K h => ?_, fun hc K h => ?_⟩
    · by_cases z : y = "i"
      · subst z; simp at hy
      · simp only [if_neg z]; exact hℓ y hy
    · repeat trivial
      have e : (((pr n).length : Int) == 0) = decide ((pr n).length = 0) := by
        rw [Bool.eq_iff_iff]; simp
      rw [e]; exact h
    · repeat trivial
  repeat trivial
  simp only [fput, String.reduceEq, if_false, if_true]
  have hs1 : Srt ad (upd (upd σ.heap D (.list ((S.ns.filter fun n => decide ((pr n).length = 0)).map fun n => LV.int n))) S.d (topAt S.nd (some D) 0 0)) { S with rl := some D } (fun m => if m ∈ ks then (pr m).length else 0) (fun m => ks.filter fun k => (pr k).contains m) (S.ns.filter fun n => decide ((pr n).length = 0)) 0 0 := by
    have h0 := hF.srt
    have lo : ∀ b o, σ.heap b = some o → b ≠ S.d → upd (upd σ.heap D (.list ((S.ns.filter fun n => decide ((pr n).length = 0)).map fun n => LV.int n))) S.d (topAt S.nd (some D) 0 0) b = some o := fun b o e hb => upd_ne hb (upd_ne (ne_sn e hD') e)
    refine ⟨lo _ _ h0.t (ne_oo h0.t h0.d (by simp)), upd_same, ⟨epn, lo _ _ hn (ne_oo hn h0.d (by simp))⟩, fun n hn => lo _ _ (h0.info n hn) (ne_oo (h0.info n hn) h0.d (by simp)), fun n hn => lo _ _ (h0.idd n hn) (ne_oo (h0.idd n hn) h0.d (by simp)), fun n hn => lo _ _ (h0.sl n hn) (ne_oo (h0.sl n hn) h0.d (by simp)), h0.slinj, h0.nodup, fun a ha => ?_⟩
    cases ha
    exact ⟨upd_ne ddd.symm upd_same, fun n hn => ne_sn (h0.sl n hn) hD'⟩
  have ht1 := hs1.t
  have hd1 := hs1.d
  simp only at ht1 hd1
  repeat trivial
  refine C_find_cycle (E := noE) (r := r) (S := { S with rl := some D }) (by exact hs1) hF.sm ?_ ?_
  · intro n hn' m hm2
    rw [List.mem_filter] at hm2
    refine ⟨(hm m).mpr hm2.1, hr m hm2.1 n (by simpa using hm2.2)⟩
  intro τ' hE
  repeat trivial
  refine hQ { S with rl := some D } τ' _ ⟨(hs1.ext hE).congr (fun n hn => ?_) (fun n hn => rfl), hm, ⟨D, rfl⟩, hs1.nodup.filter _, fun n => ?_, List.nodup_nil, List.nodup_nil, by simp, by simp, by simp⟩ ?_ ?_ rfl
  · rw [if_pos (hm' n hn)]
    simp only [npOf, List.not_mem_nil, if_false]
    rw [List.filter_eq_self.mpr (by simp)]
  · rw [List.mem_filter, hm]
    simp only [List.not_mem_nil, not_false_eq_true, true_and]
    refine and_congr_right fun _ => ?_
    simp only [decide_eq_true_eq, List.length_eq_zero_iff]
    constructor
    · intro h p hp; rw [h] at hp; simp at hp
    · intro h
      cases hp : pr n with
      | nil => rfl
      | cons a l => exact (h a (by rw [hp]; simp)).elim
  · exact ((hF.keep.upd (hF.keep.none hD')).upd (hF.out _ .d)).tr hE
  · intro b hb
    rcases hb with z | z | z | z | z
    · exact hF.out b (.inl z)
    · exact hF.out b (.inr (.inl z))
    · exact hF.out b (.inr (.inr (.inl z)))
    · cases z; exact hF.keep.none hD'
    · exact hF.out b (.inr (.inr (.inr (.inr z))))
end
end
section
section
variable {ad : Ad} {K τ τ' : LH} {S : Sr} {ks : List Int} {pr : Int → List Int} {O D rd : List Int} {np np' : Int → Int} {succ succ' : Int → List Int} {po nf : Int} {r : Int → Nat}
theorem Sor.lenrd (h : Sor ad τ S ks pr O D rd) (hsm : Sm ks) : rd.length ≤ 20 := ss_len h.rdn fun a ha => hsm a ((h.rdm a).mp ha).1

set_option maxHeartbeats 4000000 in
theorem C_get_ready {σ : LS} {Q : LV → LS → Prop} {E : LX → LS → Prop} (h : Sor ad σ.heap S ks pr O D rd) (hsm : Sm ks)
    (hQ : ∀ τ', Sor ad τ' S ks pr (O ++ rd) D [] → Fr S σ.heap τ' → Q (.tup (rd.map .int)) ⟨σ.loc, τ'⟩) : P_get_ready ad [.ref S.t] Q E σ := by
  refine ⟨_, rfl, ?_⟩
  unfold B_get_ready
  have ht := h.srt.t
  have hd := h.srt.d
  obtain ⟨a, ha⟩ := h.rl
  have hd' := hd
  simp only [topAt, rlV, ha] at hd
  obtain ⟨epn, hn⟩ := h.srt.nd
  obtain ⟨hra, hrn⟩ := h.srt.rl a ha
  have hlen := h.lenrd hsm
  repeat trivial
  refine titems_go (by simp [cap]; omega) ?_
  refine for_go (f := fun n => LV.int n) (fun pre _ σ' => σ'.loc "self" = some (.ref S.t) ∧ σ'.loc "n2i" = some (.ref S.nd) ∧ σ'.loc "result" = some (.tup (rd.map .int)) ∧ Fr S σ.heap σ'.heap ∧ Srt ad σ'.heap S (fun m => if m ∈ pre then -1 else npOf pr O D m) (scOf ks pr) rd O.length D.length) rd ?_ ?_ ?_
  · refine ⟨rfl, rfl, rfl, Fr.rfl', ?_⟩
    simp only [List.not_mem_nil, if_false]
    exact h.srt
  · rintro P pre x rest ⟨ℓ, τ2⟩ he ⟨e1, e2, e3, hf, h2⟩ hP
    simp only at e1 e2 e3 hf h2
    have hx : x ∈ S.ns := (h.mem x).mpr ((h.rdm x).mp (by rw [he]; simp)).1
    have hi2 := h2.info x hx
    have hid2 := h2.idd x hx
    obtain ⟨ep2, hn2⟩ := h2.nd
    have lk : (S.ns.map fun n => (n, LV.ref (S.info n))).lookup x = some (.ref (S.info x)) := by rw [lookup_map, if_pos hx]
    refine ⟨True.intro, ?_⟩
    repeat trivial
    refine hP _ ⟨e1, e2, e3, hf.tr (Fr.upd (.info hx)), ?_⟩
    have := h2.setnp hx (-1)
    refine this.congr (fun n hn => ?_) (fun _ _ => rfl)
    by_cases z : n = x
    · subst z; simp
    · simp [z]
  · rintro ⟨ℓ, τ2⟩ ⟨e1, e2, e3, hf, h2⟩
    simp only at e1 e2 e3 hf h2
    refine ⟨True.intro, ?_⟩
    have ht2 := h2.t
    have hd2 := h2.d
    obtain ⟨hra2, _⟩ := h2.rl a ha
    simp only [topAt, rlV, ha] at hd2
    repeat trivial
    have h3 := h2.setrd ha []
    have ht3 := h3.t
    have hd3 := h3.d
    simp only [topAt, rlV, ha] at hd3
    repeat trivial
    refine lenT_go (by simp [cap]; omega) ?_
    repeat trivial
    simp only [fput, String.reduceEq, if_false, if_true]
    refine hQ _ ⟨?_, h.mem, h.rl, List.nodup_nil, fun n => ?_, ?_, h.dd, fun n hn => List.mem_append_left _ (h.dO n hn), fun n hn => ?_, fun n hn => ?_⟩ ?_
    · have h4 := h3.setd (O.length + rd.length) D.length
      have e : ((O ++ rd).length : Int) = (O.length : Int) + rd.length := by simp
      rw [e]
      simp only [topAt, rlV, ha] at h4
      simp only [List.length_map]
      refine h4.congr (fun n hn => ?_) (fun _ _ => rfl)
      by_cases z : n ∈ rd
      · have h1 := ((h.rdm n).mp z).2.1
        have h2 : n ∉ D := fun y => h1 (h.dO n y)
        simp [npOf, z, h2]
      · simp [npOf, z]
    · constructor
      · intro z; simp at z
      · rintro ⟨z1, z2, z3⟩
        refine absurd ?_ z2
        by_cases y : n ∈ O
        · simp [y]
        · exact List.mem_append_right _ ((h.rdm n).mpr ⟨z1, y, z3⟩)
    · rw [List.nodup_append]
      exact ⟨h.od, h.rdn, fun a ha b hb z => ((h.rdm b).mp hb).2.1 (z ▸ ha)⟩
    · rcases List.mem_append.mp hn with z | z
      · exact h.ok n z
      · exact ((h.rdm n).mp z).1
    · rcases List.mem_append.mp hn with z | z
      · exact h.op n z
      · exact ((h.rdm n).mp z).2.2
    · exact (hf.tr (Fr.upd (.rl ha))).tr (Fr.upd .d)

theorem C_is_active {σ : LS} {Q : LV → LS → Prop} {E : LX → LS → Prop} (h : Sor ad σ.heap S ks pr O D rd)
    (hQ : Q (.bool (decide (D.length < O.length) || !rd.isEmpty)) σ) : P_is_active ad [.ref S.t] Q E σ := by
  refine ⟨_, rfl, ?_⟩
  unfold B_is_active
  have ht := h.srt.t
  have hd := h.srt.d
  obtain ⟨a, ha⟩ := h.rl
  simp only [topAt, rlV, ha] at hd
  obtain ⟨hra, hrn⟩ := h.srt.rl a ha
  repeat trivial
  refine if_both (fun z => ?_) (fun z => ?_)
  · have : D.length < O.length := by simpa using z
    simp only [this, decide_true, Bool.true_or] at hQ
    have e : decide ((D.length : Int) < O.length) = true := z
    rw [e]; exact hQ
  · have : ¬ D.length < O.length := by simpa using z
    simp only [this, decide_false, Bool.false_or] at hQ
    repeat trivial
    have e : (rd.map LV.int).isEmpty = rd.isEmpty := by cases rd <;> rfl
    rw [e]; exact hQ
end
end
section
section
variable {ad : Ad} {K τ τ' : LH} {S : Sr} {ks : List Int} {pr : Int → List Int} {O D rd : List Int} {np np' : Int → Int} {succ succ' : Int → List Int} {po nf : Int} {r : Int → Nat}
def leftN (pr : Int → List Int) (D : List Int) (n : Int) : Nat := ((pr n).filter fun p => !D.contains p).length
theorem left_step {D : List Int} {x s : Int} (hn : (pr s).Nodup) (hx : x ∈ pr s) (hd : x ∉ D) : leftN pr D s = leftN pr (D ++ [x]) s + 1 := by
  have := sum_drop (fun _ => 1) (fun p => !D.contains p) (fun p => !(D ++ [x]).contains p) x hn hx (by simp [hd]) (fun n => by
    by_cases e : n = x <;> simp [e])
  unfold leftN
  simpa [List.map_const', List.sum_replicate_nat] using this
theorem left_zero {D : List Int} {s : Int} : leftN pr D s = 0 ↔ ∀ p ∈ pr s, p ∈ D := by
  unfold leftN
  rw [List.length_eq_zero_iff, List.filter_eq_nil_iff]
  simp
/-- counters while a done job's followers are gone through -/
def npMid (pr : Int → List Int) (O D : List Int) (x : Int) (q : List Int) (n : Int) : Int := if n ∈ D ++ [x] then -2 else if n ∈ O then -1 else if n ∈ q then (leftN pr (D ++ [x]) n : Nat) else (leftN pr D n : Nat)

set_option maxHeartbeats 8000000 in
theorem C_done {σ : LS} {xs : List Int} {Q : LV → LS → Prop} {E : LX → LS → Prop} (h : Sor ad σ.heap S ks pr O D rd) (hk : GrOk ks pr) (hxn : xs.Nodup) (hxs : ∀ x ∈ xs, x ∈ O ∧ x ∉ D)
    (hQ : ∀ τ' rd', Sor ad τ' S ks pr O (D ++ xs) rd' → Fr S σ.heap τ' → Q .none ⟨σ.loc, τ'⟩) : P_done ad (.ref S.t :: xs.map .int) Q E σ := by
  have hxl : xs.length ≤ 20 := ss_len hxn fun a ha => hk.sm a (h.ok a (hxs a ha).1)
  refine ⟨[("self", .ref S.t), ("nodes", .tup (xs.map .int))], ?_, ?_⟩
  · unfold bndV
    rw [if_pos (by simp [cap]; omega)]
    rfl
  unfold B_done
  have ht := h.srt.t
  have hd := h.srt.d
  obtain ⟨a, ha⟩ := h.rl
  simp only [topAt, rlV, ha] at hd
  repeat trivial
  refine titems_go (by simp [cap]; omega) ?_
  refine for_go (f := fun n => LV.int n) (fun pre _ σ' => σ'.loc "self" = some (.ref S.t) ∧ σ'.loc "n2i" = some (.ref S.nd) ∧ Fr S σ.heap σ'.heap ∧ ∃ rd', Sor ad σ'.heap S ks pr O (D ++ pre) rd') xs ⟨rfl, rfl, Fr.rfl', rd, by rw [List.append_nil]; exact h⟩ ?_ ?_
  · rintro P pre x rest ⟨ℓ, τ2⟩ he ⟨e1, e2, hf, rd2, h2⟩ hP
    simp only at e1 e2 hf h2
    obtain ⟨hxO, hxD⟩ := hxs x (by rw [he]; simp)
    have hxp : x ∉ pre := fun z => by
      rw [he, List.nodup_append] at hxn
      exact hxn.2.2 x z x (.head _) rfl
    have hxD2 : x ∉ D ++ pre := by simp [hxD, hxp]
    have hx : x ∈ S.ns := (h.mem x).mpr (h.ok x hxO)
    have hi2 := h2.srt.info x hx
    have hnp : npOf pr O (D ++ pre) x = -1 := by simp only [npOf, if_neg hxD2, if_pos hxO]
    rw [hnp] at hi2
    have hid2 := h2.srt.idd x hx
    obtain ⟨ep2, hn2⟩ := h2.srt.nd
    have lk : (S.ns.map fun n => (n, LV.ref (S.info n))).lookup x = some (.ref (S.info x)) := by rw [lookup_map, if_pos hx]
    refine ⟨True.intro, ?_⟩
    repeat trivial
    rw [lk, Option.getD_some]
    repeat trivial
    simp only [sput1]
    have h3 : Srt ad (upd τ2 (S.info x) (nodeAt ad (S.idd x) x (-2) (S.sl x))) S (npMid pr O (D ++ pre) x []) (scOf ks pr) rd2 O.length (D ++ pre).length := by
      refine (h2.srt.setnp hx (-2)).congr (fun n hn => ?_) (fun _ _ => rfl)
      by_cases z : n = x
      · subst z; simp [npMid]
      · simp [npMid, npOf, leftN, z]
    have hi3 := h3.info x hx
    have hid3 := h3.idd x hx
    have hs3 := h3.sl x hx
    repeat trivial
    refine for_go (f := fun n => LV.int n) (fun q _ σ' => σ'.loc "self" = some (.ref S.t) ∧ σ'.loc "n2i" = some (.ref S.nd) ∧ Fr S σ.heap σ'.heap ∧ ∃ rd', Srt ad σ'.heap S (npMid pr O (D ++ pre) x q) (scOf ks pr) rd' O.length (D ++ pre).length ∧ rd'.Nodup ∧ ∀ n, n ∈ rd' ↔ n ∈ rd2 ∨ (n ∈ q ∧ ∀ p ∈ pr n, p ∈ D ++ pre ++ [x])) (scOf ks pr x) ⟨e1, e2, hf.tr (Fr.upd (.info hx)), rd2, h3, h2.rdn, by simp⟩ ?_ ?_
    · clear hP
      rintro P q s rest2 ⟨ℓ3, τ4⟩ he3 ⟨f1, f2, hf4, rd4, h4, n4, m4⟩ hP
      simp only at f1 f2 hf4 h4
      have hscn : (scOf ks pr x).Nodup := hk.nodup.filter _
      have hsq : s ∉ q := fun z => by
        rw [he3, List.nodup_append] at hscn
        exact hscn.2.2 s z s (.head _) rfl
      have hsm : s ∈ scOf ks pr x := by rw [he3]; simp
      obtain ⟨hsk, hsx⟩ := List.mem_filter.mp hsm
      have hsx : x ∈ pr s := by simpa using hsx
      have hsO : s ∉ O := fun z => hxD2 (h2.op s z x hsx)
      have hsD : s ∉ D ++ pre ++ [x] := fun z => by
        rcases List.mem_append.mp z with y | y
        · exact hsO (h2.dO s y)
        · rw [List.mem_singleton] at y; exact hsO (y ▸ hxO)
      have hs : s ∈ S.ns := (h.mem s).mpr hsk
      have hi4 := h4.info s hs
      have hid4 := h4.idd s hs
      have hst := left_step (D := D ++ pre) (hk.pn s hsk) hsx hxD2
      have hnp4 : npMid pr O (D ++ pre) x q s = leftN pr (D ++ pre ++ [x]) s + 1 := by
        simp only [npMid, if_neg hsD, if_neg hsO, if_neg hsq]
        rw [hst]; simp
      rw [hnp4] at hi4
      obtain ⟨ep4, hn4⟩ := h4.nd
      have hsl4 := h4.sl x hx
      have lk4 : (S.ns.map fun n => (n, LV.ref (S.info n))).lookup s = some (.ref (S.info s)) := by rw [lookup_map, if_pos hs]
      refine ⟨hsl4, ?_⟩
      repeat trivial
      simp only [sput1]
      have e5 : (leftN pr (D ++ pre ++ [x]) s : Int) + 1 - 1 = leftN pr (D ++ pre ++ [x]) s := by omega
      rw [e5]
      have h5 : Srt ad (upd τ4 (S.info s) (nodeAt ad (S.idd s) s (leftN pr (D ++ pre ++ [x]) s) (S.sl s))) S (npMid pr O (D ++ pre) x (q ++ [s])) (scOf ks pr) rd4 O.length (D ++ pre).length := by
        refine (h4.setnp hs _).congr (fun n hn => ?_) (fun _ _ => rfl)
        by_cases z : n = s
        · subst z; simp only [npMid, if_neg hsD, if_neg hsO]; simp
        · simp [npMid, z]
      have hi5 := h5.info s hs
      have hid5 := h5.idd s hs
      have ht5 := h5.t
      have hd5 := h5.d
      simp only [topAt, rlV, ha] at hd5
      obtain ⟨hra5, hrn5⟩ := h5.rl a ha
      have hrd4 : rd4.length ≤ 20 := ss_len n4 fun b hb => by
        rcases (m4 b).mp hb with z | z
        · exact hk.sm b ((h2.rdm b).mp z).1
        · have : b ∈ scOf ks pr x := by rw [he3]; simp [z.1]
          exact hk.sm b (List.mem_filter.mp this).1
      have hsr : s ∉ rd4 := fun z => by
        rcases (m4 s).mp z with y | y
        · exact hxD2 (((h2.rdm s).mp y).2.2 x hsx)
        · exact hsq y.1
      have key : npMid pr O (D ++ pre) x (q ++ [s]) s = leftN pr (D ++ pre ++ [x]) s := by
        simp only [npMid, if_neg hsD, if_neg hsO]; simp
      rw [key] at hi5
      repeat trivial
      refine if_both (fun z => ?_) (fun z => ?_)
      · have hz : leftN pr (D ++ pre ++ [x]) s = 0 := by simpa using z
        have hz' := left_zero.mp hz
        repeat trivial
        refine lappend_go (by infer_instance) (by simp [cap]; omega) ?_
        refine hP _ ⟨f1, f2, (hf4.tr (Fr.upd (.info hs))).tr (Fr.upd (.rl ha)), rd4 ++ [s], ?_, ?_, fun n => ?_⟩
        · have := h5.setrd ha (rd4 ++ [s])
          rw [List.map_append] at this
          exact this
        · rw [List.nodup_append]
          exact ⟨n4, by simp, fun a ha b hb y => by rw [List.mem_singleton] at hb; subst hb; subst y; exact hsr ha⟩
        · rw [List.mem_append, m4, List.mem_append, List.mem_singleton]
          constructor
          · rintro ((y | ⟨y1, y2⟩) | rfl)
            · exact .inl y
            · exact .inr ⟨.inl y1, y2⟩
            · exact .inr ⟨.inr rfl, hz'⟩
          · rintro (y | ⟨y1 | y1, y2⟩)
            · exact .inl (.inl y)
            · exact .inl (.inr ⟨y1, y2⟩)
            · exact .inr y1
      · have hz : leftN pr (D ++ pre ++ [x]) s ≠ 0 := by simpa using z
        refine hP _ ⟨f1, f2, hf4.tr (Fr.upd (.info hs)), rd4, h5, n4, fun n => ?_⟩
        rw [m4, List.mem_append, List.mem_singleton]
        constructor
        · rintro (y | ⟨y1, y2⟩)
          · exact .inl y
          · exact .inr ⟨.inl y1, y2⟩
        · rintro (y | ⟨y1 | y1, y2⟩)
          · exact .inl y
          · exact .inr ⟨y1, y2⟩
          · subst y1; exact absurd (left_zero.mpr y2) hz
    · rintro ⟨ℓ3, τ4⟩ ⟨f1, f2, hf4, rd4, h4, n4, m4⟩
      simp only at f1 f2 hf4 h4
      refine ⟨h4.sl x hx, ?_⟩
      have ht4 := h4.t
      have hd4 := h4.d
      repeat trivial
      simp only [fput, String.reduceEq, if_false, if_true]
      refine hP _ ⟨f1, f2, hf4.tr (Fr.upd .d), rd4, ⟨?_, h.mem, h.rl, n4, fun n => ?_, h.od, ?_, ?_, h.ok, ?_⟩⟩
      · have h5 := h4.setd O.length ((D ++ pre).length + 1)
        have e : ((D ++ (pre ++ [x])).length : Int) = ((D ++ pre).length : Int) + 1 := by simp; omega
        rw [e]
        refine h5.congr (fun n hn => ?_) (fun _ _ => rfl)
        have hnk := (h.mem n).mp hn
        rw [← List.append_assoc]
        simp only [npMid, npOf]
        split
        · rfl
        · rename_i hnd
          split
          · rfl
          · rename_i hnO
            have : (if n ∈ scOf ks pr x then ((leftN pr (D ++ pre ++ [x]) n : Nat) : Int) else (leftN pr (D ++ pre) n : Nat)) = (leftN pr (D ++ pre ++ [x]) n : Nat) := by
              split
              · rfl
              · rename_i hns
                have hxn : x ∉ pr n := fun z => hns (List.mem_filter.mpr ⟨hnk, by simpa using z⟩)
                unfold leftN
                congr 2
                refine List.filter_congr fun p hp => ?_
                have : p ≠ x := fun z => hxn (z ▸ hp)
                simp [this]
            rw [this]; rfl
      · rw [m4, h2.rdm, ← List.append_assoc]
        constructor
        · rintro (⟨y1, y2, y3⟩ | ⟨y1, y2⟩)
          · exact ⟨y1, y2, fun p hp => List.mem_append_left _ (y3 p hp)⟩
          · obtain ⟨g1, g2⟩ := List.mem_filter.mp y1
            refine ⟨g1, fun z => ?_, y2⟩
            exact hxD2 (h2.op n z x (by simpa using g2))
        · rintro ⟨y1, y2, y3⟩
          by_cases z : x ∈ pr n
          · exact .inr ⟨List.mem_filter.mpr ⟨y1, by simpa using z⟩, y3⟩
          · refine .inl ⟨y1, y2, fun p hp => ?_⟩
            rcases List.mem_append.mp (y3 p hp) with y | y
            · exact y
            · rw [List.mem_singleton] at y; exact absurd (y ▸ hp) z
      · rw [← List.append_assoc, List.nodup_append]
        exact ⟨h2.dd, by simp, fun a ha b hb y => by rw [List.mem_singleton] at hb; subst hb; subst y; exact hxD2 ha⟩
      · intro n hn
        rw [← List.append_assoc] at hn
        rcases List.mem_append.mp hn with y | y
        · exact h2.dO n y
        · rw [List.mem_singleton] at y; exact y ▸ hxO
      · intro n hn p hp
        rw [← List.append_assoc]
        exact List.mem_append_left _ (h2.op n hn p hp)
  · rintro ⟨ℓ, τ2⟩ ⟨e1, e2, hf, rd2, h2⟩
    exact ⟨True.intro, hQ τ2 rd2 h2 hf⟩
end
end
section
/-- must be ahead of, or is -/
inductive Le (pr : Int → List Int) : Int → Int → Prop
  | refl (a : Int) : Le pr a a
  | step {a p k : Int} : Le pr a p → p ∈ pr k → Le pr a k
theorem Le.iff {pr : Int → List Int} {a k : Int} : Le pr a k ↔ a = k ∨ ∃ p ∈ pr k, Le pr a p := by
  constructor
  · intro h
    cases h with
    | refl => exact .inl rfl
    | step h hp => exact .inr ⟨_, hp, h⟩
  · rintro (rfl | ⟨p, hp, h⟩)
    · exact .refl _
    · exact h.step hp
theorem dput_map {f : Int → LV} {ks : List Int} {x : Int} {v : LV} (h : x ∉ ks) : dput (ks.map fun n => (n, f n)) x v = (ks ++ [x]).map fun n => (n, if n = x then v else f n) := by
  rw [dput_new (by rw [lookup_map, if_neg h]), List.map_append]
  simp only [List.map_cons, List.map_nil, if_true]
  congr 1
  refine List.map_congr_left fun n hn => ?_
  rw [if_neg fun (z : n = x) => h (z ▸ hn)]
theorem dset_go' {QU : Unit → LS → Prop} {E : LX → LS → Prop} {σ : LS} {a : Nat} {es : List (Int × LV)} {ep : Nat} {k : Int} {v : LV} (h : σ.heap a = some (.dict es ep)) (h1 : es.length + 1 ≤ cap) (q : ∀ ep' τ', upd σ.heap a (.dict (dput es k v) ep') = τ' → QU () ⟨σ.loc, τ'⟩) : pdset (.ref a) (.int k) v QU E σ := ⟨es, ep, h, h1, fun ep' => q ep' _ rfl⟩
theorem filter_tt {α : Type} (xs : List α) : xs.filter (fun _ => true) = xs := List.filter_eq_self.mpr (by simp)
section
variable {ad : Ad} {K τ τ' : LH} {S : Sr} {ks : List Int} {pr : Int → List Int} {O D rd : List Int} {r : Int → Nat}
/-- all jobs are handed out where none is ready -/
theorem Sor.all (h : Sor ad τ S ks pr O O []) (hk : GrOk ks pr) (hr : ∀ k ∈ ks, ∀ p ∈ pr k, r p < r k) : ∀ n ∈ ks, n ∈ O := by
  intro n
  generalize hm : r n = m
  induction m using Nat.strongRecOn generalizing n with
  | ind m ih =>
    intro hn
    refine Decidable.byContradiction fun hO => ?_
    have := (h.rdm n).mpr ⟨hn, hO, fun p hp => ih (r p) (hm ▸ hr n hn p hp) p rfl (hk.sub n hn p hp)⟩
    simp at this
/-- what _law_read tells -/
structure ReadOk (τ : LH) (ks : List Int) (pr : Int → List Int) (ra un : Nat) (O : List Int) (rk : Int → Int) (ua : Int → Nat) (U : Int → List Int) : Prop where
  ra : ∃ ep, τ ra = some (.dict (O.map fun n => (n, .int (rk n))) ep)
  un : ∃ ep, τ un = some (.dict (O.map fun n => (n, .ref (ua n))) ep)
  ual : ∀ n ∈ O, τ (ua n) = some (.list ((U n).map .int))
  rk0 : ∀ n ∈ O, 0 ≤ rk n
  rks : ∀ n ∈ O, ∀ p ∈ pr n, rk p < rk n
  uS : ∀ n ∈ O, SS (U n)
  uM : ∀ n ∈ O, ∀ a, a ∈ U n ↔ Le pr a n
theorem le_mem (hk : GrOk ks pr) {a n : Int} (h : Le pr a n) (hn : n ∈ ks) : a ∈ ks := by
  induction h with
  | refl => exact hn
  | step h hp ih => exact ih (hk.sub _ hn _ hp)
theorem ReadOk.ext {ra un : Nat} {O : List Int} {rk : Int → Int} {ua : Int → Nat} {U : Int → List Int} (h : ReadOk τ ks pr ra un O rk ua U) (e : Ext τ τ') : ReadOk τ' ks pr ra un O rk ua U := by
  obtain ⟨⟨ep, h1⟩, ⟨ep', h2⟩, h3, h4, h5, h6, h7⟩ := h
  exact ⟨⟨ep, e _ _ h1⟩, ⟨ep', e _ _ h2⟩, fun n hn => e _ _ (h3 n hn), h4, h5, h6, h7⟩

theorem Fill.new {np : Int → Int} {succ : Int → List Int} (h : Fill ad K τ S np succ) {a : Nat} {o : LO} (ha : τ a = none) : Fill ad (upd K a o) (upd τ a o) S np succ := by
  refine ⟨h.srt.ext (Ext.new ha), fun b o' e => ?_, fun b hb => ?_, h.zero, h.sm, h.rl⟩
  · by_cases z : b = a
    · subst z; rw [upd_same] at e ⊢; exact e
    · have : K b = some o' := by simpa [upd, z] using e
      exact upd_ne z (h.keep b o' this)
  · obtain ⟨o', e⟩ := h.srt.foot hb
    exact upd_ne (ne_sn e ha) (h.out b hb)
theorem le_rank (hk : GrOk ks pr) (hr : ∀ k ∈ ks, ∀ p ∈ pr k, r p < r k) {a n : Int} (h : Le pr a n) (hn : n ∈ ks) : r a ≤ r n := by
  induction h with
  | refl => exact Nat.le_refl _
  | step h hp ih =>
    have h1 := hr _ hn _ hp
    have h2 := ih (hk.sub _ hn _ hp)
    omega

set_option maxHeartbeats 8000000 in
theorem C_read {σ : LS} {g : Nat} {Q : LV → LS → Prop} {E : LX → LS → Prop} (hg : Gr σ.heap g ks pr) (hk : GrOk ks pr) (hr : ∀ k ∈ ks, ∀ p ∈ pr k, r p < r k)
    (hQ : ∀ τ' ra un O rk ua U, Ext σ.heap τ' → O.Nodup → (∀ n, n ∈ O ↔ n ∈ ks) → ReadOk τ' ks pr ra un O rk ua U → Q (.tup [.ref ra, .ref un]) ⟨σ.loc, τ'⟩) : P_law_read ad [.ref g] Q E σ := by
  refine ⟨_, rfl, ?_⟩
  unfold B_law_read
  have hkl := ss_len hk.nodup hk.sm
  trivial
  intro d a hda hd ha
  refine C_T (E := noE) hda hd ha (by exact hg) hk ?_
  intro S τ1 hF hm hSa
  refine ⟨rfl, ?_⟩
  subst hSa
  repeat trivial
  intro ra hra
  repeat trivial
  intro un hun
  have hra' : τ1 ra = none := hra
  have nru : un ≠ ra := by rintro rfl; simp [upd] at hun
  have hun' : τ1 un = none := by simpa [upd, nru] using hun
  have hrun := nru.symm
  iterate 3 trivial
  have hF2 : Fill ad (upd (upd σ.heap ra (.dict [] 0)) un (.dict [] 0)) (upd (upd τ1 ra (.dict [] 0)) un (.dict [] 0)) S (fun m => if m ∈ ks then ((pr m).length : Int) else 0) (fun m => ks.filter fun k => (pr k).contains m) := (Fill.new hF hra').new (upd_ne nru hun')
  have htF := hF2.srt.t
  have hdF := hF2.srt.d
  repeat trivial
  refine C_prepare (E := noE) (by exact hF2) hm hk hr ?_
  intro S2 τ2 rd hS2 hE2 hO2 ht2
  have hra2 : τ2 ra = some (.dict [] 0) := hE2 _ _ (upd_ne hrun upd_same)
  have hun2 : τ2 un = some (.dict [] 0) := hE2 _ _ upd_same
  have fra : ¬ S2.Foot ra := fun z => by have := hO2 ra z; rw [upd_ne hrun upd_same] at this; cases this
  have fun' : ¬ S2.Foot un := fun z => by have := hO2 un z; rw [upd_same] at this; cases this
  have kra : σ.heap ra = none := hF.keep.none hra'
  have kun : σ.heap un = none := hF.keep.none hun'
  have kS : ∀ b, S2.Foot b → σ.heap b = none := fun b hb => by
    have := hO2 b hb
    unfold upd at this
    split at this
    · cases this
    · split at this
      · cases this
      · exact this
  have kE : Ext σ.heap τ2 := (((Ext.rfl'.upd kra).upd kun).tr hE2)
  obtain ⟨pa, epg, hg1, hg2⟩ := hg
  refine while_go (fun n σ' => ∃ O rd turn rk ua U, ks.length - O.length = n ∧ σ'.loc "ahead" = some (.ref g) ∧ σ'.loc "plan" = some (.ref S2.t) ∧ σ'.loc "ranks" = some (.ref ra) ∧ σ'.loc "under" = some (.ref un) ∧ σ'.loc "turn" = some (.int turn) ∧ Sor ad σ'.heap S2 ks pr O O rd ∧ Ext σ.heap σ'.heap ∧ ReadOk σ'.heap ks pr ra un O rk ua U ∧ 0 ≤ turn ∧ (∀ n ∈ O, rk n < turn) ∧ (∀ n ∈ O, ¬ S2.Foot (ua n))) ks.length ?_ ?_
  · refine ⟨[], rd, 0, fun _ => 0, fun _ => 0, fun _ => [], rfl, rfl, ?_, rfl, rfl, rfl, hS2, kE, ⟨⟨0, hra2⟩, ⟨0, hun2⟩, by simp, by simp, by simp, by simp, by simp⟩, by decide, by simp, by simp⟩
    rw [ht2]; rfl
  · rintro P n ⟨ℓ, τ⟩ ⟨O, rd, turn, rk, ua, U, hn, e1, e2, e3, e4, e5, hS, hE, hR, t0, htn, hfu⟩ hP
    simp only at e1 e2 e3 e4 e5 hS hE hR
    have htS := hS.srt.t
    have hdS := hS.srt.d
    repeat trivial
    refine C_is_active (E := noE) (by exact hS) ?_
    repeat trivial
    cases hrd : rd with
    | nil =>
      refine if_false' (by simp) ?_
      subst hrd
      repeat trivial
      exact hQ τ ra un O rk ua U hE hS.od (fun n => ⟨hS.ok n, hS.all hk hr n⟩) hR
    | cons y ys =>
      refine if_true' (by simp) ?_
      have hrl := hS.lenrd hk.sm
      repeat trivial
      refine C_get_ready (E := noE) (by exact hS) hk.sm ?_
      intro τ3 hS3 hFr
      have hE3 : Ext σ.heap τ3 := fun b o e => hFr b o (fun z => by rw [kS b z] at e; cases e) (hE b o e)
      obtain ⟨⟨epr, hr1⟩, ⟨epu, hu1⟩, hR3, hR4, hR5, hR6, hR7⟩ := hR
      have hR' : ReadOk τ3 ks pr ra un O rk ua U := ⟨⟨epr, hFr _ _ fra hr1⟩, ⟨epu, hFr _ _ fun' hu1⟩, fun n hn => hFr _ _ (hfu n hn) (hR3 n hn), hR4, hR5, hR6, hR7⟩
      repeat trivial
      refine titems_go (by simp [cap]; omega) ?_
      refine for_go (f := fun n => LV.int n) (fun pre _ σ' => ∃ rk ua U, σ'.loc "ahead" = some (.ref g) ∧ σ'.loc "plan" = some (.ref S2.t) ∧ σ'.loc "ranks" = some (.ref ra) ∧ σ'.loc "under" = some (.ref un) ∧ σ'.loc "turn" = some (.int turn) ∧ σ'.loc "group" = some (.tup (rd.map .int)) ∧ Sor ad σ'.heap S2 ks pr (O ++ rd) O [] ∧ Ext σ.heap σ'.heap ∧ ReadOk σ'.heap ks pr ra un (O ++ pre) rk ua U ∧ (∀ n ∈ O ++ pre, rk n ≤ turn) ∧ (∀ n ∈ O, rk n < turn) ∧ (∀ n ∈ O ++ pre, ¬ S2.Foot (ua n))) rd ?_ ?_ ?_
      · refine ⟨rk, ua, U, e1, e2, e3, e4, e5, rfl, hS3, hE3, by rw [List.append_nil]; exact hR', ?_, htn, by rw [List.append_nil]; exact hfu⟩
        intro n hn
        rw [List.append_nil] at hn
        exact Int.le_of_lt (htn n hn)
      · clear hP
        rintro P pre x rest ⟨ℓ4, τ4⟩ he ⟨rk4, ua4, U4, f1, f2, f3, f4, f5, f6, hS4, hE4, ⟨⟨epr4, hr4⟩, ⟨epu4, hu4⟩, g3, g4, g5, g6, g7⟩, l4, l4', fu4⟩ hP
        simp only at f1 f2 f3 f4 f5 f6 hS4 hE4 hr4 hu4 g3
        refine ⟨True.intro, ?_⟩
        have hxr : x ∈ rd := by rw [he]; simp
        obtain ⟨hxk, hxO, hxp⟩ := (hS.rdm x).mp hxr
        have hxpre : x ∉ pre := fun z => by
          have := hS.rdn
          rw [he, List.nodup_append] at this
          exact this.2.2 x z x (.head _) rfl
        have hxn : x ∉ O ++ pre := by simp [hxO, hxpre]
        have hol : (O ++ pre).length ≤ 20 := by
          have h1 : (O ++ rd).length ≤ ks.length := hS4.od.length_le_of_subset fun a ha => hS4.ok a ha
          rw [he] at h1
          simp only [List.length_append, List.length_cons] at h1 ⊢
          omega
        repeat trivial
        refine dset_go' hr4 (by simp only [List.length_map]; unfold cap; omega) (fun ep5 τ5 hτ5 => ?_)
        rw [dput_map hxn] at hτ5
        have hga : g ≠ ra := ne_sn hg1 kra
        have hpa := hg2 x hxk
        have hpra : pa x ≠ ra := ne_sn hpa kra
        have hE5 : Ext σ.heap τ5 := by rw [← hτ5]; exact hE4.upd kra
        have hgE := hE5 _ _ hg1
        have hpE := hE5 _ _ hpa
        have lkg : (ks.map fun k => (k, LV.ref (pa k))).lookup x = some (.ref (pa x)) := by rw [lookup_map, if_pos hxk]
        repeat trivial
        intro Dl hDl
        have hDl' : τ5 Dl = none := hDl
        have hu5 : τ5 un = some (.dict ((O ++ pre).map fun n => (n, .ref (ua4 n))) epu4) := by rw [← hτ5]; exact upd_ne nru hu4
        have hr5 : τ5 ra = some (.dict ((O ++ pre ++ [x]).map fun n => (n, if n = x then LV.int turn else .int (rk4 n))) ep5) := by rw [← hτ5]; exact upd_same
        have hp5 := hE5 _ _ hpa
        have hS5 : Sor ad τ5 S2 ks pr (O ++ rd) O [] := by rw [← hτ5]; exact hS4.put fra
        have g35 : ∀ n ∈ O ++ pre, τ5 (ua4 n) = some (.list ((U4 n).map .int)) := fun n hn => by rw [← hτ5]; exact upd_ne (ne_oo (g3 n hn) hr4 (by simp)) (g3 n hn)
        have dn1 : pa x ≠ Dl := ne_sn hp5 hDl'
        have dn2 : un ≠ Dl := ne_sn hu5 hDl'
        have hprO : ∀ p ∈ pr x, p ∈ O ++ pre := fun p hp => List.mem_append_left _ (hxp p hp)
        have hprl : (pr x).length ≤ 20 := ss_len (hk.pn x hxk) fun a ha => hk.sm a (hk.sub x hxk a ha)
        refine comp_go (f := fun n => LV.int n) (fun _ => true) (fun o => .ref (ua4 o)) (by unfold cap; omega) (fun ℓ' acc => by exact upd_ne dn1 hp5) (fun o ho acc ℓ' hℓ => ?_) ?_
        · have lku : ((O ++ pre).map fun n => (n, LV.ref (ua4 n))).lookup o = some (.ref (ua4 o)) := by rw [lookup_map, if_pos (hprO o ho)]
          refine ⟨fun y => if y = "other" then some (.int o) else ℓ' y, fun y hy => ?_, fun K h => h, fun K h => h, fun hc K h => ?_⟩
          · by_cases z : y = "other"
            · subst z; simp at hy
            · simp only [if_neg z]; exact hℓ y hy
          · repeat trivial
        rw [filter_tt]
        refine C_joined (E := noE) (rws := (pr x).map fun o => (ua4 o, U4 o)) (by rw [List.map_map]; exact upd_same) ?_ ?_
        · intro p hp
          obtain ⟨o, ho, rfl⟩ := List.mem_map.mp hp
          have ho' := hprO o ho
          exact ⟨upd_ne (ne_sn (g35 o ho') hDl') (g35 o ho'), g6 o ho', fun b hb => hk.sm b (le_mem hk ((g7 o ho' b).mp hb) (hk.sub x hxk o ho))⟩
        intro w τ6 W hE6 hw sW mW
        have mW' : ∀ a, a ∈ W ↔ ∃ p ∈ pr x, Le pr a p := fun a => by
          rw [mW]
          constructor
          · rintro ⟨p, h1, h2⟩
            obtain ⟨o, ho, rfl⟩ := List.mem_map.mp h1
            exact ⟨o, ho, (g7 o (hprO o ho) a).mp h2⟩
          · rintro ⟨o, ho, h2⟩
            exact ⟨_, List.mem_map_of_mem ho, (g7 o (hprO o ho) a).mpr h2⟩
        have wl : W.length ≤ 20 := ss_len (ss_nodup sW) fun a ha => by
          obtain ⟨p, h1, h2⟩ := (mW' a).mp ha
          exact hk.sm a (le_mem hk h2 (hk.sub x hxk p h1))
        have hxW : x ∉ W := fun z => by
          obtain ⟨p, h1, h2⟩ := (mW' x).mp z
          have a1 := le_rank hk hr h2 (hk.sub x hxk p h1)
          have a2 := hr x hxk p h1
          omega
        have hE56 : Ext τ5 τ6 := (Ext.new hDl').tr hE6
        repeat trivial
        intro b1 hb1
        refine cat_go (xs := W.map .int) (ys := [LV.int x]) (by exact upd_new hb1 hw) (by exact upd_same) (by simp [cap]; omega) ?_
        intro b2 hb2
        refine sorted_go (is := W ++ [x]) (by rw [List.map_append]; exact upd_same) (by simp; omega) ?_
        intro js hjp hjs b3 hb3
        have hE57 := ((hE56.tr (Ext.new hb1)).tr (Ext.new hb2)).tr (Ext.new (o := .list (js.map .int)) hb3)
        have hnf3 : ¬ S2.Foot b3 := ((hS5.ext (hE56.tr (Ext.new hb1))).ext (Ext.new hb2)).foot hb3
        have hu7 := hE57 _ _ hu5
        repeat trivial
        have b3u : b3 ≠ un := (ne_sn (((hE56.tr (Ext.new hb1)).tr (Ext.new hb2)) _ _ hu5) hb3).symm
        refine dset_go' (by exact hu7) (by simp only [List.length_map]; unfold cap; omega) (fun ep6 τ8 hτ8 => ?_)
        rw [dput_map hxn] at hτ8
        have lo : ∀ b o, b ≠ un → τ5 b = some o → τ8 b = some o := fun b o hb e => by rw [← hτ8]; exact upd_ne hb (hE57 _ _ e)
        have h8u : τ8 un = some (.dict ((O ++ pre ++ [x]).map fun n => (n, if n = x then LV.ref b3 else .ref (ua4 n))) ep6) := by rw [← hτ8]; exact upd_same
        have h8b : τ8 b3 = some (.list (js.map .int)) := by rw [← hτ8]; exact upd_ne b3u upd_same
        have hcase : ∀ n ∈ O ++ (pre ++ [x]), n = x ∨ (n ≠ x ∧ n ∈ O ++ pre) := fun n hn => by
          rw [← List.append_assoc] at hn
          rcases List.mem_append.mp hn with z | z
          · exact .inr ⟨fun y => hxn (y ▸ z), z⟩
          · exact .inl (List.mem_singleton.mp z)
        have hjn : js.Nodup := by
          rw [hjp.nodup_iff, List.nodup_append]
          exact ⟨ss_nodup sW, by simp, fun a ha b hb z => by rw [List.mem_singleton] at hb; subst hb; subst z; exact hxW ha⟩
        have hjm : ∀ a, a ∈ js ↔ Le pr a x := fun a => by
          rw [hjp.mem_iff, List.mem_append, List.mem_singleton, mW', Le.iff (k := x), or_comm]
        refine hP _ ⟨fun m => if m = x then turn else rk4 m, fun m => if m = x then b3 else ua4 m, fun m => if m = x then js else U4 m, f1, f2, f3, f4, f5, f6, ?_, ?_, ⟨⟨ep5, ?_⟩, ⟨ep6, ?_⟩, fun n hn => ?_, fun n hn => ?_, fun n hn p hp => ?_, fun n hn => ?_, fun n hn a => ?_⟩, fun n hn => ?_, fun n hn => ?_, fun n hn => ?_⟩
        · rw [← hτ8]; exact (hS5.ext hE57).put fun'
        · rw [← hτ8]; exact (hE5.tr hE57).upd kun
        · refine (lo _ _ hrun hr5).trans ?_
          rw [List.append_assoc]
          refine congrArg (fun l => some (LO.dict l ep5)) (List.map_congr_left fun n _ => ?_)
          split <;> rfl
        · refine h8u.trans ?_
          rw [List.append_assoc]
          refine congrArg (fun l => some (LO.dict l ep6)) (List.map_congr_left fun n _ => ?_)
          split <;> rfl
        · rcases hcase n hn with z | ⟨z1, z2⟩
          · subst z; simp only [if_true]; exact h8b
          · simp only [if_neg z1]
            exact lo _ _ (ne_oo (g35 n z2) hu5 (by simp)) (g35 n z2)
        · rcases hcase n hn with z | ⟨z1, z2⟩
          · subst z; simp only [if_true]; exact t0
          · simp only [if_neg z1]; exact g4 n z2
        · rcases hcase n hn with z | ⟨z1, z2⟩
          · subst z
            have hpn : p ≠ n := fun y => hxO (y ▸ hxp p hp)
            simp only [if_true, if_neg hpn]
            exact l4' p (hxp p hp)
          · have hnk : n ∈ ks := hS4.ok n (by
              rcases List.mem_append.mp z2 with y | y
              · exact List.mem_append_left _ y
              · exact List.mem_append_right _ (by rw [he]; simp [y]))
            have hnO : n ∈ O ++ rd := by
              rcases List.mem_append.mp z2 with y | y
              · exact List.mem_append_left _ y
              · exact List.mem_append_right _ (by rw [he]; simp [y])
            have hpn : p ≠ x := fun y => hxO (y ▸ hS4.op n hnO p hp)
            simp only [if_neg z1, if_neg hpn]
            exact g5 n z2 p hp
        · rcases hcase n hn with z | ⟨z1, z2⟩
          · subst z; simp only [if_true]; exact ss_of hjs hjn
          · simp only [if_neg z1]; exact g6 n z2
        · rcases hcase n hn with z | ⟨z1, z2⟩
          · subst z; simp only [if_true]; exact hjm a
          · simp only [if_neg z1]; exact g7 n z2 a
        · rcases hcase n hn with z | ⟨z1, z2⟩
          · subst z; simp
          · simp only [if_neg z1]; exact l4 n z2
        · have : n ≠ x := fun y => hxO (y ▸ hn)
          simp only [if_neg this]; exact l4' n hn
        · rcases hcase n hn with z | ⟨z1, z2⟩
          · subst z; simp only [if_true]; exact hnf3
          · simp only [if_neg z1]; exact fu4 n z2
      · rintro ⟨ℓ4, τ4⟩ ⟨rk4, ua4, U4, f1, f2, f3, f4, f5, f6, hS4, hE4, hR4', l4, l4', fu4⟩
        simp only at f1 f2 f3 f4 f5 f6 hS4 hE4 hR4'
        refine ⟨True.intro, ?_⟩
        have htS4 := hS4.srt.t
        have hdS4 := hS4.srt.d
        repeat trivial
        refine starT_go (by simp [cap]; omega) ?_
        refine C_done (E := noE) (by exact hS4) hk hS.rdn (fun x hx => ⟨List.mem_append_right _ hx, ((hS.rdm x).mp hx).2.1⟩) ?_
        intro τ5 rd5 hS5 hFr5
        repeat trivial
        obtain ⟨⟨epr4, hr4⟩, ⟨epu4, hu4⟩, g3, g4, g5, g6, g7⟩ := hR4'
        refine hP _ _ ?_ ⟨O ++ rd, rd5, turn + 1, rk4, ua4, U4, rfl, f1, f2, f3, f4, rfl, hS5, fun b o e => hFr5 b o (fun z => by rw [kS b z] at e; cases e) (hE4 b o e), ⟨⟨epr4, hFr5 _ _ fra hr4⟩, ⟨epu4, hFr5 _ _ fun' hu4⟩, fun n hn => hFr5 _ _ (fu4 n hn) (g3 n hn), g4, g5, g6, g7⟩, by omega, fun n hn => by have := l4 n hn; omega, fu4⟩
        have h1 : (O ++ rd).length ≤ ks.length := hS5.od.length_le_of_subset fun a ha => hS5.ok a ha
        have h2 : rd.length = ys.length + 1 := by rw [hrd]; rfl
        simp only [List.length_append] at h1 ⊢
        omega
end
end
section
theorem not_go {m : LV → LV → PTx Bool} {a b : LV} {QB : Bool → LS → Prop} {E : LX → LS → Prop} {σ : LS} (h : m a b (fun z σ' => QB (!z) σ') E σ) : pnot m a b QB E σ := h
/-- the set that follows -/
def Row (ks : List Int) (pr : Int → List Int) (C : List Int) (a : Int) : Prop := ∃ n ∈ ks, n ∉ C ∧ (∀ p ∈ pr n, p ∈ C) ∧ Le pr a n
section
variable {ad : Ad} {K τ τ' : LH} {S : Sr} {ks : List Int} {pr : Int → List Int} {O D rd : List Int} {r : Int → Nat}
set_option maxHeartbeats 8000000 in
theorem C_following {σ : LS} {g ra un ch : Nat} {rk : Int → Int} {ua : Int → Nat} {U : Int → List Int} {C : List Int} {Q : LV → LS → Prop} {E : LX → LS → Prop} (hg : Gr σ.heap g ks pr) (hk : GrOk ks pr) (hr : ∀ k ∈ ks, ∀ p ∈ pr k, r p < r k)
    (hO : ∀ n, n ∈ O ↔ n ∈ ks) (hR : ReadOk σ.heap ks pr ra un O rk ua U) (hch : σ.heap ch = some (.list (C.map .int))) (sC : SS C) (hCk : ∀ n ∈ C, n ∈ ks) (hCd : ∀ n ∈ C, ∀ p ∈ pr n, p ∈ C)
    (hQ : ∀ w τ' W, Ext σ.heap τ' → τ' w = some (.list (W.map .int)) → SS W → (∀ a, a ∈ W ↔ Row ks pr C a) → Q (.ref w) ⟨σ.loc, τ'⟩) : P_law_following ad [.ref g, .ref ra, .ref un, .ref ch] Q E σ := by
  refine ⟨_, rfl, ?_⟩
  unfold B_law_following
  have hkl := ss_len hk.nodup hk.sm
  have hCl : C.length ≤ 20 := ss_len (ss_nodup sC) fun a ha => hk.sm a (hCk a ha)
  trivial
  intro d a hda hd ha
  refine C_T (E := noE) hda hd ha (by exact hg) hk ?_
  intro S τ1 hF hm hSa
  refine ⟨rfl, ?_⟩
  subst hSa
  have htF := hF.srt.t
  have hdF := hF.srt.d
  repeat trivial
  refine C_prepare (E := noE) (by exact hF) hm hk hr ?_
  intro S2 τ2 rd hS2 hE2 hO2 ht2
  rw [← ht2]
  have hE2 : Ext σ.heap τ2 := hE2
  have kS : ∀ b, S2.Foot b → σ.heap b = none := hO2
  have hE := hE2
  obtain ⟨⟨epr, hr1⟩, ⟨epu, hu1⟩, hR3, hR4, hR5, hR6, hR7⟩ := hR
  repeat trivial
  intro hp hhp
  have hhp' : τ2 hp = none := hhp
  have khp : σ.heap hp = none := hE2.none hhp'
  have fhp : ¬ S2.Foot hp := hS2.foot hhp'
  have n1 : ch ≠ hp := ne_sn hch khp
  have n2 : ra ≠ hp := ne_sn hr1 khp
  refine comp_go (f := fun n => LV.int n) (fun _ => true) (fun n => tp (rk n, n)) (by unfold cap; omega) (fun ℓ' acc => by exact upd_ne n1 (hE2 _ _ hch)) (fun o ho acc ℓ' hℓ => ?_) ?_
  · have lku : (O.map fun n => (n, LV.int (rk n))).lookup o = some (.int (rk o)) := by rw [lookup_map, if_pos ((hO o).mpr (hCk o ho))]
    refine ⟨fun y => if y = "name" then some (.int o) else ℓ' y, fun y hy => ?_, fun K h => h, fun K h => h, fun hc K h => ?_⟩
    · by_cases z : y = "name"
      · subst z; simp at hy
      · simp only [if_neg z]; exact hℓ y hy
    · repeat trivial
  rw [filter_tt]
  have e0 : (C.map fun n => tp (rk n, n)) = (C.map fun n => (rk n, n)).map tp := by rw [List.map_map]; rfl
  rw [e0]
  repeat trivial
  refine C_heapify (E := noE) (ps := C.map fun n => (rk n, n)) (by simp; omega) (by exact upd_same) ?_
  intro ps hpm hph
  have hS3 : Sor ad (upd (upd τ2 hp (.list ((C.map fun n => (rk n, n)).map tp))) hp (.list (ps.map tp))) S2 ks pr [] [] rd := (hS2.put fhp).put fhp
  have hS3t := hS3.srt.t
  have hS3d := hS3.srt.d
  repeat trivial
  refine C_get_ready (E := noE) (by exact hS3) hk.sm ?_
  intro τ4 hS4 hFr4
  have hrl := hS2.lenrd hk.sm
  have hp4 : τ4 hp = some (.list (ps.map tp)) := hFr4 _ _ fhp upd_same
  have hE4 : Ext σ.heap τ4 := fun b o e => hFr4 b o (fun z => by rw [kS b z] at e; cases e) ((((hE2.upd khp).upd khp) b o e))
  repeat trivial
  refine listofT_go (by simp [cap]; omega) ?_
  intro gv hgv
  have hgv' : τ4 gv = none := hgv
  have kgv : σ.heap gv = none := hE4.none hgv'
  have fgv : ¬ S2.Foot gv := hS4.foot hgv'
  have ngh : hp ≠ gv := ne_sn hp4 hgv'
  rw [List.nil_append] at hS4
  repeat trivial
  refine while_go (fun n σ' => ∃ O' D ps, ps.length = n ∧ σ'.loc "under" = some (.ref un) ∧ σ'.loc "chosen" = some (.ref ch) ∧ σ'.loc "plan" = some (.ref S2.t) ∧ σ'.loc "heap" = some (.ref hp) ∧ σ'.loc "given" = some (.ref gv) ∧ Ext σ.heap σ'.heap ∧ Sor ad σ'.heap S2 ks pr O' D [] ∧ σ'.heap hp = some (.list (ps.map tp)) ∧ σ'.heap gv = some (.list (O'.map .int)) ∧ HeapFrom 0 ps ∧ (∀ q ∈ ps, q.1 = rk q.2) ∧ (D ++ ps.map (·.2)).Perm C) ps.length ?_ ?_
  · refine ⟨rd, [], ps, rfl, rfl, rfl, rfl, rfl, rfl, hE4.tr (Ext.new hgv'), hS4.ext (Ext.new hgv'), upd_ne ngh hp4, upd_same, hph, fun q hq => ?_, ?_⟩
    · obtain ⟨n, _, rfl⟩ := List.mem_map.mp (hpm.mem_iff.mp hq); rfl
    · have := hpm.map (·.2)
      rw [List.map_map] at this
      have e : (C.map ((fun x : Pr => x.2) ∘ fun n => (rk n, n))) = C := (List.map_congr_left fun _ _ => rfl).trans (List.map_id C)
      rw [e] at this
      exact this
  · rintro P n ⟨ℓ, τ⟩ ⟨O', D, ps, hn, e1, e2, e3, e4, e5, hE, hS, hhp5, hgv5, hph5, hq5, hpm5⟩ hP
    simp only at e1 e2 e3 e4 e5 hE hS hhp5 hgv5
    have hpl : ps.length ≤ 20 := by
      have := hpm5.length_eq; simp at this; omega
    have hOl : O'.length ≤ 20 := by
      have : O'.length ≤ ks.length := hS.od.length_le_of_subset fun a ha => hS.ok a ha
      omega
    repeat trivial
    intro em hem
    have hem' : τ em = none := hem
    refine not_go ?_
    refine leq0_go (xs := ps.map tp) (by exact upd_new hem' hhp5) (by exact upd_same) ?_
    cases hps : ps with
    | nil =>
      refine if_false' (by simp) ?_
      subst hps
      have hE6 : Ext σ.heap (upd τ em (.list [])) := hE.tr (Ext.new hem')
      have hgv6 : upd τ em (.list []) gv = some (.list (O'.map .int)) := upd_new hem' hgv5
      have hch6 := hE6 _ _ hch
      have hDC : ∀ n, n ∈ D ↔ n ∈ C := fun n => by
        have := hpm5.mem_iff (a := n)
        simpa using this
      have hO6 : ∀ n, n ∈ O' ↔ n ∈ ks ∧ ∀ p ∈ pr n, p ∈ C := fun n => by
        constructor
        · intro h; exact ⟨hS.ok n h, fun p hp => (hDC p).mp (hS.op n h p hp)⟩
        · rintro ⟨h1, h2⟩
          refine Decidable.byContradiction fun h3 => ?_
          have := (hS.rdm n).mpr ⟨h1, h3, fun p hp => (hDC p).mpr (h2 p hp)⟩
          simp at this
      repeat trivial
      refine sorted_go (is := O') (by exact hgv6) (by omega) ?_
      intro js hjp hjs f hf
      have sj : SS js := ss_of hjs (hjp.nodup_iff.mpr hS.od)
      have hE7 := hE6.tr (Ext.new (o := .list (js.map .int)) hf)
      have hjl : js.length ≤ 20 := by rw [hjp.length_eq]; exact hOl
      repeat trivial
      refine C_sld (E := noE) (xs := js) (ys := C) (by exact upd_same) (by exact hE7 _ _ hch) sj sC (by omega) (by omega) ?_
      intro m u τ8 hm8 hu8 hmu hE8 hτm hτu
      have hE9 := hE7.tr hE8
      have hun9 := hE9 _ _ hu1
      have mw : ∀ n, n ∈ lessL js C ↔ n ∈ ks ∧ n ∉ C ∧ ∀ p ∈ pr n, p ∈ C := fun n => by
        rw [mem_lessL, hjp.mem_iff, hO6]
        exact ⟨fun ⟨⟨a, b⟩, c⟩ => ⟨a, c, b⟩, fun ⟨a, c, b⟩ => ⟨⟨a, b⟩, c⟩⟩
      repeat trivial
      intro Dl hDl
      have hDl' : τ8 Dl = none := hDl
      have d1 : m ≠ Dl := ne_sn hτm hDl'
      have d2 : un ≠ Dl := ne_sn hun9 hDl'
      have hll : (lessL js C).length ≤ js.length := List.length_filter_le _ _
      refine comp_go (f := fun n => LV.int n) (fun _ => true) (fun n => .ref (ua n)) (by unfold cap; omega) (fun ℓ' acc => by exact upd_ne d1 hτm) (fun o ho acc ℓ' hℓ => ?_) ?_
      · have hoO : o ∈ O := (hO o).mpr ((mw o).mp ho).1
        have lku : (O.map fun n => (n, LV.ref (ua n))).lookup o = some (.ref (ua o)) := by rw [lookup_map, if_pos hoO]
        refine ⟨fun y => if y = "name" then some (.int o) else ℓ' y, fun y hy => ?_, fun K h => h, fun K h => h, fun hc K h => ?_⟩
        · by_cases z : y = "name"
          · subst z; simp at hy
          · simp only [if_neg z]; exact hℓ y hy
        · repeat trivial
      rw [filter_tt]
      refine C_joined (E := noE) (rws := (lessL js C).map fun o => (ua o, U o)) (by rw [List.map_map]; exact upd_same) ?_ ?_
      · intro p hp
        obtain ⟨o, ho, rfl⟩ := List.mem_map.mp hp
        have hok := ((mw o).mp ho).1
        have hoO : o ∈ O := (hO o).mpr hok
        exact ⟨upd_new hDl' (hE9 _ _ (hR3 o hoO)), hR6 o hoO, fun b hb => hk.sm b (le_mem hk ((hR7 o hoO b).mp hb) hok)⟩
      intro w τ10 W hE10 hw sW mW
      refine hQ w τ10 W ((hE9.tr (Ext.new hDl')).tr hE10) hw sW fun a => ?_
      rw [mW]
      constructor
      · rintro ⟨p, h1, h2⟩
        obtain ⟨o, ho, rfl⟩ := List.mem_map.mp h1
        obtain ⟨a1, a2, a3⟩ := (mw o).mp ho
        exact ⟨o, a1, a2, a3, (hR7 o ((hO o).mpr a1) a).mp h2⟩
      · rintro ⟨o, a1, a2, a3, a4⟩
        exact ⟨_, List.mem_map_of_mem ((mw o).mpr ⟨a1, a2, a3⟩), (hR7 o ((hO o).mpr a1) a).mpr a4⟩
    | cons q qs =>
      refine if_true' (by simp) ?_
      have hS6 := hS.ext (Ext.new (o := .list []) hem')
      have hS6t := hS6.srt.t
      have hS6d := hS6.srt.d
      repeat trivial
      refine C_heappop (E := noE) (ps := ps) (by rw [hps]; simp) (by omega) (by exact upd_new hem' hhp5) hph5 ?_
      intro x ps' hx1 hx2 hx3
      have hxp : x ∈ ps := hx1.mem_iff.mp (.head _)
      have hx0 := hq5 x hxp
      have hperm : (D ++ x.2 :: ps'.map (·.2)).Perm C := (List.Perm.append_left D (hx1.map (fun q : Pr => q.2))).trans hpm5
      have hxC : x.2 ∈ C := hperm.mem_iff.mp (by simp)
      have hndp := hperm.nodup_iff.mpr (ss_nodup sC)
      have hxD : x.2 ∉ D := fun z => by
        rw [List.nodup_append] at hndp
        exact hndp.2.2 _ z _ (.head _) rfl
      have hxpre : ∀ p ∈ pr x.2, p ∈ D := fun p hp => by
        have hpC := hCd _ hxC p hp
        rcases List.mem_append.mp (hpm5.mem_iff.mpr hpC) with z | z
        · exact z
        · obtain ⟨q', hq1, hq2⟩ := List.mem_map.mp z
          have h1 := hx2 q' hq1
          have h2 := hq5 q' hq1
          have h3 := hR5 x.2 ((hO _).mpr (hCk _ hxC)) p hp
          subst hq2
          unfold ple at h1
          omega
      have hxO : x.2 ∈ O' := Decidable.byContradiction fun z => by
        have := (hS.rdm x.2).mpr ⟨hCk _ hxC, z, hxpre⟩
        simp at this
      refine tget_go (v := .int x.2) (by decide) (by simp [tp]) (by rfl) ?_
      have hS7 : Sor ad (upd (upd τ em (.list [])) hp (.list (ps'.map tp))) S2 ks pr O' D [] := hS6.put fhp
      refine C_done (E := noE) (xs := [x.2]) (by exact hS7) hk (by simp) (fun y hy => by rw [List.mem_singleton] at hy; subst hy; exact ⟨hxO, hxD⟩) ?_
      intro τ8 rd8 hS8 hFr8
      have hE7 : Ext σ.heap (upd (upd τ em (.list [])) hp (.list (ps'.map tp))) := (hE.tr (Ext.new hem')).upd khp
      have hE8 : Ext σ.heap τ8 := fun b o e => hFr8 b o (fun z => by rw [kS b z] at e; cases e) (hE7 b o e)
      have hhp8 : τ8 hp = some (.list (ps'.map tp)) := hFr8 _ _ fhp upd_same
      have hgv8 : τ8 gv = some (.list (O'.map .int)) := hFr8 _ _ fgv (upd_ne ngh.symm (upd_new hem' hgv5))
      have hS8t := hS8.srt.t
      have hS8d := hS8.srt.d
      repeat trivial
      refine C_get_ready (E := noE) (by exact hS8) hk.sm ?_
      intro τ9 hS9 hFr9
      have hrl8 := hS8.lenrd hk.sm
      have hhp9 := hFr9 _ _ fhp hhp8
      have hgv9 := hFr9 _ _ fgv hgv8
      have hE9 : Ext σ.heap τ9 := fun b o e => hFr9 b o (fun z => by rw [kS b z] at e; cases e) (hE8 b o e)
      repeat trivial
      refine lextendT_go (xs := O'.map .int) (ys := rd8.map .int) (by exact hgv9) (by simp [cap]; omega) ?_
      refine hP _ _ ?_ ⟨O' ++ rd8, D ++ [x.2], ps', rfl, e1, e2, e3, e4, e5, hE9.upd kgv, hS9.put fgv, upd_ne ngh hhp9, ?_, hx3, fun q hq => hq5 q (hx1.mem_iff.mp (.tail _ hq)), ?_⟩
      · have := hx1.length_eq; simp at this; omega
      · rw [List.map_append]; exact upd_same
      · rw [List.append_assoc]; exact hperm
end
end
section
section
variable {ad : Ad} {K τ τ' : LH} {S : Sr} {ks : List Int} {pr : Int → List Int} {O D rd : List Int} {r : Int → Nat}
theorem Le.cons {a s n : Int} (h : a ∈ pr s) (k : Le pr s n) : Le pr a n := by
  induction k with
  | refl => exact (Le.refl a).step h
  | step _ hp ih => exact (ih).step hp
theorem Le.head {a n : Int} (h : Le pr a n) : a = n ∨ ∃ s, a ∈ pr s ∧ Le pr s n := by
  induction h with
  | refl => exact .inl rfl
  | step h hp ih =>
    rename_i p k
    rcases ih with rfl | ⟨s, h1, h2⟩
    · exact .inr ⟨k, hp, .refl k⟩
    · exact .inr ⟨s, h1, h2.step hp⟩
theorem Le.down {C : List Int} (hC : ∀ n ∈ C, ∀ p ∈ pr n, p ∈ C) {a n : Int} (h : Le pr a n) (hn : n ∈ C) : a ∈ C := by
  induction h with
  | refl => exact hn
  | step h hp ih => exact ih (hC _ hn _ hp)
theorem row_in (hk : GrOk ks pr) {C : List Int} {x : Int} (hx : x ∈ C) : Row ks pr C x ↔ ∃ s ∈ ks, x ∈ pr s ∧ Row ks pr C s := by
  constructor
  · rintro ⟨n, h1, h2, h3, h4⟩
    rcases h4.head with rfl | ⟨s, g1, g2⟩
    · exact absurd hx h2
    · exact ⟨s, le_mem hk g2 h1, g1, n, h1, h2, h3, g2⟩
  · rintro ⟨s, hs, g1, n, h1, h2, h3, h4⟩
    exact ⟨n, h1, h2, h3, h4.cons g1⟩
theorem row_out {C : List Int} (hC : ∀ n ∈ C, ∀ p ∈ pr n, p ∈ C) {x : Int} (hk : x ∈ ks) (hx : x ∉ C) : Row ks pr C x ↔ ∀ p ∈ pr x, p ∈ C := by
  constructor
  · rintro ⟨n, h1, h2, h3, h4⟩
    rcases Le.iff.mp h4 with rfl | ⟨p, g1, g2⟩
    · exact h3
    · exact absurd (g2.down hC (h3 p g1)) hx
  · intro h; exact ⟨x, hk, hx, h, .refl x⟩
theorem filter_nil {xs : List Int} {c : Int → Bool} {e : Int → LV} : ((xs.filter c).map e).isEmpty = true ↔ ∀ x ∈ xs, c x = false := by
  rw [List.isEmpty_iff, List.map_eq_nil_iff, List.filter_eq_nil_iff]
  simp

theorem C_heappop' {σ : LS} {h : Nat} {ps : List Pr} {Q : LV → LS → Prop} {E : LX → LS → Prop} (hne : ps ≠ []) (hsz : ps.length < 1000) (hh : σ.heap h = some (.list (ps.map tp))) (hi : HeapFrom 0 ps)
    (hQ : ∀ p ps' τ', (p :: ps').Perm ps → (∀ q ∈ ps, ple p q) → HeapFrom 0 ps' → upd σ.heap h (.list (ps'.map tp)) = τ' → Q (tp p) ⟨σ.loc, τ'⟩) : P_heappop ad [.ref h] Q E σ :=
  C_heappop hne hsz hh hi fun p ps' a b c => hQ p ps' _ a b c rfl

set_option maxHeartbeats 8000000 in
theorem C_switched {σ : LS} {g ra un ch : Nat} {rk : Int → Int} {ua : Int → Nat} {U : Int → List Int} {C : List Int} {Q : LV → LS → Prop} {E : LX → LS → Prop} (hg : Gr σ.heap g ks pr) (hk : GrOk ks pr)
    (hO : ∀ n, n ∈ O ↔ n ∈ ks) (hR : ReadOk σ.heap ks pr ra un O rk ua U) (hch : σ.heap ch = some (.list (C.map .int))) (sC : SS C) (hCk : ∀ n ∈ C, n ∈ ks) (hCd : ∀ n ∈ C, ∀ p ∈ pr n, p ∈ C)
    (hQ : ∀ w τ' W, Ext σ.heap τ' → τ' w = some (.list (W.map .int)) → SS W → (∀ a, a ∈ W ↔ a ∈ ks ∧ Row ks pr C a) → Q (.ref w) ⟨σ.loc, τ'⟩) : P_law_switched ad [.ref g, .ref ra, .ref ch] Q E σ := by
  refine ⟨_, rfl, ?_⟩
  unfold B_law_switched
  have hkl := ss_len hk.nodup hk.sm
  have hCl : C.length ≤ 20 := ss_len (ss_nodup sC) fun a ha => hk.sm a (hCk a ha)
  obtain ⟨⟨epr, hr1⟩, ⟨epu, hu1⟩, hR3, hR4, hR5, hR6, hR7⟩ := hR
  obtain ⟨pa, epg, hg1, hg2⟩ := hg
  repeat trivial
  intro hp hhp
  have khp : σ.heap hp = none := hhp
  have n1 : ch ≠ hp := ne_sn hch khp
  repeat trivial
  intro he hhe
  have neh : he ≠ hp := by rintro rfl; simp [upd] at hhe
  have nhe : hp ≠ he := neh.symm
  have khe : σ.heap he = none := by simpa [upd, neh] using hhe
  have n2 : g ≠ hp := ne_sn hg1 khp
  have n3 : g ≠ he := ne_sn hg1 khe
  have n4 : ra ≠ hp := ne_sn hr1 khp
  have n5 : ra ≠ he := ne_sn hr1 khe
  clear hhe hhp
  repeat trivial
  rw [List.map_map]
  refine for_go (f := fun n => LV.int n) (fun pre _ σ' => ∃ ps, σ'.loc "ahead" = some (.ref g) ∧ σ'.loc "ranks" = some (.ref ra) ∧ σ'.loc "heap" = some (.ref hp) ∧ σ'.loc "held" = some (.ref he) ∧ Ext σ.heap σ'.heap ∧ σ'.heap hp = some (.list (ps.map tp)) ∧ σ'.heap he = some (.list (C.map .int)) ∧ HeapFrom 0 ps ∧ ps.Perm (pre.map fun n => (-rk n, n))) ks ?_ ?_ ?_
  · refine ⟨[], rfl, rfl, rfl, rfl, (Ext.rfl'.upd khp).upd khe, upd_ne nhe upd_same, upd_same, fun i _ hl => by simp at hl, by simp⟩
  · rintro P pre x rest ⟨ℓ, τ⟩ hx ⟨ps, e1, e2, e3, e4, hE, hhp5, hhe5, hph, hpm⟩ hP
    simp only at e1 e2 e3 e4 hE hhp5 hhe5
    have hxk : x ∈ ks := by rw [hx]; simp
    have lkr : (O.map fun n => (n, LV.int (rk n))).lookup x = some (.int (rk x)) := by rw [lookup_map, if_pos ((hO x).mpr hxk)]
    have hpl : ps.length ≤ 20 := by
      have h1 := hpm.length_eq
      have h2 : ks.length = pre.length + (rest.length + 1) := by rw [hx]; simp
      simp at h1; omega
    refine ⟨hE _ _ hg1, ?_⟩
    repeat trivial
    refine C_heappush (E := noE) (x := (-rk x, x)) (ps := ps) (by omega) (by exact hhp5) hph ?_
    intro ps' hpm' hph'
    refine hP _ ⟨ps', e1, e2, e3, e4, hE.upd khp, upd_same, upd_ne neh hhe5, hph', ?_⟩
    rw [List.map_append]
    exact (hpm'.trans (hpm.cons _)).trans (List.perm_append_comm (l₁ := [(-rk x, x)]))
  · rintro ⟨ℓ, τ⟩ ⟨ps0, e1, e2, e3, e4, hE, hhp5, hhe5, hph, hpm⟩
    simp only at e1 e2 e3 e4 hE hhp5 hhe5
    refine ⟨hE _ _ hg1, ?_⟩
    refine while_go (fun n σ' => ∃ (H D : List Int) (ps : List Pr), ps.length = n ∧ σ'.loc "ahead" = some (.ref g) ∧ σ'.loc "heap" = some (.ref hp) ∧ σ'.loc "held" = some (.ref he) ∧ Ext σ.heap σ'.heap ∧ σ'.heap hp = some (.list (ps.map tp)) ∧ σ'.heap he = some (.list (H.map .int)) ∧ HeapFrom 0 ps ∧ (∀ q ∈ ps, q.1 = -rk q.2) ∧ (D ++ ps.map (·.2)).Perm ks ∧ (∀ d ∈ D, ∀ q ∈ ps, rk q.2 ≤ rk d) ∧ H.Nodup ∧ (∀ n ∈ H, n ∈ ks) ∧ (∀ n ∈ ks, n ∉ D → (n ∈ H ↔ n ∈ C)) ∧ (∀ n ∈ D, n ∈ H ↔ Row ks pr C n)) ps0.length ?_ ?_
    · refine ⟨C, [], ps0, rfl, e1, e3, e4, hE, hhp5, hhe5, hph, fun q hq => ?_, ?_, by simp, ss_nodup sC, hCk, by simp, by simp⟩
      · obtain ⟨n, _, rfl⟩ := List.mem_map.mp (hpm.mem_iff.mp hq); rfl
      · have := hpm.map (fun q : Pr => q.2)
        rw [List.map_map] at this
        have e : (ks.map ((fun x : Pr => x.2) ∘ fun n => (-rk n, n))) = ks := (List.map_congr_left fun _ _ => rfl).trans (List.map_id ks)
        rw [e] at this
        exact this
    · clear hE hhp5 hhe5 hph hpm e1 e2 e3 e4
      rintro P n ⟨ℓ, τ⟩ ⟨H, D, ps, hn, e1, e3, e4, hE, hhp5, hhe5, hph, hq5, hpm5, hdq, hHn, hHk, hHC, hHR⟩ hP
      simp only at e1 e3 e4 hE hhp5 hhe5
      have hpl : ps.length ≤ 20 := by
        have := hpm5.length_eq; simp at this; omega
      have hHl : H.length ≤ 20 := ss_len hHn fun a ha => hk.sm a (hHk a ha)
      repeat trivial
      intro em hem
      have hem' : τ em = none := hem
      refine not_go ?_
      refine leq0_go (xs := ps.map tp) (by exact upd_new hem' hhp5) (by exact upd_same) ?_
      cases hps : ps with
      | nil =>
        refine if_false' (by simp) ?_
        subst hps
        have hE6 : Ext σ.heap (upd τ em (.list [])) := hE.tr (Ext.new hem')
        have hDk : ∀ n, n ∈ D ↔ n ∈ ks := fun n => by
          have := hpm5.mem_iff (a := n)
          simpa using this
        repeat trivial
        refine sorted_go (is := H) (by exact upd_new hem' hhe5) (by omega) ?_
        intro js hjp hjs f hf
        repeat trivial
        refine hQ f _ js (hE6.tr (Ext.new hf)) upd_same (ss_of hjs (hjp.nodup_iff.mpr hHn)) fun a => ?_
        rw [hjp.mem_iff]
        constructor
        · intro h; exact ⟨hHk a h, (hHR a ((hDk a).mpr (hHk a h))).mp h⟩
        · rintro ⟨h1, h2⟩; exact (hHR a ((hDk a).mpr h1)).mpr h2
      | cons q qs =>
        refine if_true' (by simp) ?_
        repeat trivial
        refine C_heappop' (E := noE) (ps := ps) (by rw [hps]; simp) (by omega) (by exact upd_new hem' hhp5) hph ?_
        intro x ps' τ7 hx1 hx2 hx3 hτ7
        have hxp : x ∈ ps := hx1.mem_iff.mp (.head _)
        have hx0 := hq5 x hxp
        have hperm : (D ++ x.2 :: ps'.map (·.2)).Perm ks := (List.Perm.append_left D (hx1.map (fun q : Pr => q.2))).trans hpm5
        have hxk : x.2 ∈ ks := hperm.mem_iff.mp (by simp)
        have hndp := hperm.nodup_iff.mpr hk.nodup
        have hxD : x.2 ∉ D := fun z => by
          rw [List.nodup_append] at hndp
          exact hndp.2.2 _ z _ (.head _) rfl
        have hmax : ∀ q ∈ ps, rk q.2 ≤ rk x.2 := fun q hq => by
          have h1 := hx2 q hq
          have h2 := hq5 q hq
          unfold ple at h1; omega
        have hsuc : ∀ s ∈ ks, x.2 ∈ pr s → s ∈ D := fun s hs hp => by
          rcases List.mem_append.mp (hpm5.mem_iff.mpr hs) with z | z
          · exact z
          · obtain ⟨q', hq1, hq2⟩ := List.mem_map.mp z
            have h1 := hmax q' hq1
            have h3 := hR5 s ((hO _).mpr hs) _ hp
            subst hq2
            omega
        have hpre : ∀ p ∈ pr x.2, p ∈ ks ∧ p ∉ D := fun p hp => by
          refine ⟨hk.sub _ hxk p hp, fun z => ?_⟩
          have h1 := hdq p z x hxp
          have h3 := hR5 x.2 ((hO _).mpr hxk) _ hp
          omega
        have hdq' : ∀ d ∈ D ++ [x.2], ∀ q ∈ ps', rk q.2 ≤ rk d := fun d hd q hq => by
          have hq' : q ∈ ps := hx1.mem_iff.mp (.tail _ hq)
          rcases List.mem_append.mp hd with z | z
          · exact hdq d z q hq'
          · rw [List.mem_singleton] at z; subst z; exact hmax q hq'
        have hpm6 : (D ++ [x.2] ++ ps'.map (·.2)).Perm ks := by rw [List.append_assoc]; exact hperm
        have hlen' : ps'.length < n := by have := hx1.length_eq; simp at this; omega
        have hq6 : ∀ q ∈ ps', q.1 = -rk q.2 := fun q hq => hq5 q (hx1.mem_iff.mp (.tail _ hq))
        refine tget_go (v := .int x.2) (by decide) (by simp [tp]) (by rfl) ?_
        have hτ7 : upd (upd τ em (.list [])) hp (.list (ps'.map tp)) = τ7 := hτ7
        have hE7 : Ext σ.heap τ7 := by rw [← hτ7]; exact (hE.tr (Ext.new hem')).upd khp
        have hhe7 : τ7 he = some (.list (H.map .int)) := by rw [← hτ7]; exact upd_ne neh (upd_new hem' hhe5)
        have hhp7 : τ7 hp = some (.list (ps'.map tp)) := by rw [← hτ7]; exact upd_same
        have hg7 := hE7 _ _ hg1
        clear hem hτ7
        repeat trivial
        refine if_both (fun hin => ?_) (fun hin => ?_)
        · have hin : x.2 ∈ H := by simpa using hin
          have hxC : x.2 ∈ C := (hHC _ hxk hxD).mp hin
          repeat trivial
          intro Dl hDl
          have hDl' : τ7 Dl = none := hDl
          have d1 : he ≠ Dl := ne_sn hhe7 hDl'
          have d2 : g ≠ Dl := ne_sn hg7 hDl'
          refine comp_go (f := fun n => LV.int n) (fun o => (pr o).contains x.2) (fun o => .int o) (by unfold cap; omega) (fun ℓ' acc => by exact upd_ne d1 hhe7) (fun o ho acc ℓ' hℓ => ?_) ?_
          · have lkg : (ks.map fun k => (k, LV.ref (pa k))).lookup o = some (.ref (pa o)) := by rw [lookup_map, if_pos (hHk o ho)]
            have hpo := hE7 _ _ (hg2 o (hHk o ho))
            have d3 : pa o ≠ Dl := ne_sn hpo hDl'
            refine ⟨fun y => if y = "other" then some (.int o) else ℓ' y, fun y hy => ?_, fun K h => h, fun K h => ?_, fun hc K h => ?_⟩
            · by_cases z : y = "other"
              · subst z; simp at hy
              · simp only [if_neg z]; exact hℓ y hy
            · repeat trivial
            · repeat trivial
          repeat trivial
          intro em2 hem2
          refine leq0_go (by exact upd_new hem2 upd_same) (by exact upd_same) ?_
          have hE8 : Ext τ7 (upd (upd τ7 Dl (.list ((H.filter fun o => (pr o).contains x.2).map fun o => LV.int o))) em2 (.list [])) := (Ext.new hDl').tr (Ext.new hem2)
          refine if_both (fun z => ?_) (fun z => ?_)
          · have z' := filter_nil.mp z
            have hrow : ¬ Row ks pr C x.2 := fun hr => by
              obtain ⟨s, s1, s2, s3⟩ := (row_in hk hxC).mp hr
              have := z' s ((hHR s (hsuc s s1 s2)).mpr s3)
              simp at this
              exact this s2
            repeat trivial
            refine lremove_go (is := H) (by exact hE8 _ _ hhe7) hin ?_
            have hme : ∀ n, n ∈ H.erase x.2 ↔ n ≠ x.2 ∧ n ∈ H := fun n => hHn.mem_erase_iff
            refine hP _ _ hlen' ⟨H.erase x.2, D ++ [x.2], ps', rfl, e1, e3, e4, (hE7.tr hE8).upd khe, upd_ne nhe (hE8 _ _ hhp7), upd_same, hx3, hq6, hpm6, hdq', hHn.erase _, fun n hn => hHk n ((hme n).mp hn).2, fun n h1 h2 => ?_, fun n hn => ?_⟩
            · have h3 : n ≠ x.2 := fun y => h2 (by simp [y])
              have h4 : n ∉ D := fun y => h2 (by simp [y])
              rw [hme, ← hHC n h1 h4]; simp [h3]
            · rcases List.mem_append.mp hn with y | y
              · have h3 : n ≠ x.2 := fun w => hxD (w ▸ y)
                rw [hme, ← hHR n y]; simp [h3]
              · rw [List.mem_singleton] at y; subst y
                rw [hme]; simp [hrow]
          · have hrow : Row ks pr C x.2 := Classical.byContradiction fun hno => by
              have : ((H.filter fun o => (pr o).contains x.2).map fun o => LV.int o).isEmpty = true := filter_nil.mpr fun o ho => by
                rw [Bool.eq_false_iff]
                intro hc
                have hc' : x.2 ∈ pr o := by simpa using hc
                exact hno ((row_in hk hxC).mpr ⟨o, hHk o ho, hc', (hHR o (hsuc o (hHk o ho) hc')).mp ho⟩)
              rw [this] at z; cases z
            refine hP _ _ hlen' ⟨H, D ++ [x.2], ps', rfl, e1, e3, e4, hE7.tr hE8, hE8 _ _ hhp7, hE8 _ _ hhe7, hx3, hq6, hpm6, hdq', hHn, hHk, fun n h1 h2 => hHC n h1 fun y => h2 (by simp [y]), fun n hn => ?_⟩
            rcases List.mem_append.mp hn with y | y
            · exact hHR n y
            · rw [List.mem_singleton] at y; subst y; simp [hin, hrow]
        · have hin : x.2 ∉ H := by simpa using hin
          have hxC : x.2 ∉ C := fun z => hin ((hHC _ hxk hxD).mpr z)
          have lkx : (ks.map fun k => (k, LV.ref (pa k))).lookup x.2 = some (.ref (pa x.2)) := by rw [lookup_map, if_pos hxk]
          have hpx := hE7 _ _ (hg2 _ hxk)
          have hprl : (pr x.2).length ≤ 20 := ss_len (hk.pn _ hxk) fun a ha => hk.sm a (hk.sub _ hxk a ha)
          have hpC : ∀ p ∈ pr x.2, p ∈ H ↔ p ∈ C := fun p hp => hHC p (hpre p hp).1 (hpre p hp).2
          repeat trivial
          intro Dl hDl
          have hDl' : τ7 Dl = none := hDl
          have d1 : he ≠ Dl := ne_sn hhe7 hDl'
          have d2 : pa x.2 ≠ Dl := ne_sn hpx hDl'
          refine comp_go (f := fun n => LV.int n) (fun o => !H.contains o) (fun o => .int o) (by unfold cap; omega) (fun ℓ' acc => by exact upd_ne d2 hpx) (fun o ho acc ℓ' hℓ => ?_) ?_
          · refine ⟨fun y => if y = "other" then some (.int o) else ℓ' y, fun y hy => ?_, fun K h => h, fun K h => ?_, fun hc K h => ?_⟩
            · by_cases z : y = "other"
              · subst z; simp at hy
              · simp only [if_neg z]; exact hℓ y hy
            · repeat trivial
            · repeat trivial
          repeat trivial
          intro em2 hem2
          refine leq0_go (by exact upd_new hem2 upd_same) (by exact upd_same) ?_
          have hE8 : Ext τ7 (upd (upd τ7 Dl (.list (((pr x.2).filter fun o => !H.contains o).map fun o => LV.int o))) em2 (.list [])) := (Ext.new hDl').tr (Ext.new hem2)
          refine if_both (fun z => ?_) (fun z => ?_)
          · have z' := filter_nil.mp z
            have hrow : Row ks pr C x.2 := (row_out hCd hxk hxC).mpr fun p hp => (hpC p hp).mp (by simpa using z' p hp)
            repeat trivial
            refine lappend_go (xs := H.map .int) (by exact hE8 _ _ hhe7) (by simp [cap]; omega) ?_
            refine hP _ _ hlen' ⟨H ++ [x.2], D ++ [x.2], ps', rfl, e1, e3, e4, (hE7.tr hE8).upd khe, upd_ne nhe (hE8 _ _ hhp7), ?_, hx3, hq6, hpm6, hdq', ?_, fun n hn => ?_, fun n h1 h2 => ?_, fun n hn => ?_⟩
            · rw [List.map_append]; exact upd_same
            · rw [List.nodup_append]
              exact ⟨hHn, by simp, fun a ha b hb w => by rw [List.mem_singleton] at hb; subst hb; subst w; exact hin ha⟩
            · rcases List.mem_append.mp hn with y | y
              · exact hHk n y
              · rw [List.mem_singleton] at y; exact y ▸ hxk
            · have h3 : n ≠ x.2 := fun y => h2 (by simp [y])
              have h4 : n ∉ D := fun y => h2 (by simp [y])
              rw [← hHC n h1 h4]; simp [h3]
            · rcases List.mem_append.mp hn with y | y
              · have h3 : n ≠ x.2 := fun w => hxD (w ▸ y)
                rw [← hHR n y]; simp [h3]
              · rw [List.mem_singleton] at y; subst y
                simp [hrow]
          · have hrow : ¬ Row ks pr C x.2 := fun hr => by
              have h1 := (row_out hCd hxk hxC).mp hr
              have : (((pr x.2).filter fun o => !H.contains o).map fun o => LV.int o).isEmpty = true := filter_nil.mpr fun o ho => by
                have := (hpC o ho).mpr (h1 o ho)
                simpa using this
              rw [this] at z; cases z
            refine hP _ _ hlen' ⟨H, D ++ [x.2], ps', rfl, e1, e3, e4, hE7.tr hE8, hE8 _ _ hhp7, hE8 _ _ hhe7, hx3, hq6, hpm6, hdq', hHn, hHk, fun n h1 h2 => hHC n h1 fun y => h2 (by simp [y]), fun n hn => ?_⟩
            rcases List.mem_append.mp hn with y | y
            · exact hHR n y
            · rw [List.mem_singleton] at y; subst y; simp [hin, hrow]
end
end
section
section
variable {ks : List Int} {pr sc : Int → List Int} {r : Int → Nat}
theorem Le.dual (hk : GrOk ks pr) (hd : ∀ k ∈ ks, ∀ m, m ∈ sc k ↔ m ∈ ks ∧ k ∈ pr m) {a n : Int} (hn : n ∈ ks) : Le sc a n ↔ a ∈ ks ∧ Le pr n a := by
  constructor
  · intro h
    induction h with
    | refl => exact ⟨hn, .refl _⟩
    | step h hp ih =>
      obtain ⟨h1, h2⟩ := (hd _ hn _).mp hp
      obtain ⟨h3, h4⟩ := ih h1
      exact ⟨h3, h4.cons h2⟩
  · rintro ⟨ha, h⟩
    induction h with
    | refl => exact .refl _
    | step h hp ih =>
      have := ih (hk.sub _ ha _ hp)
      exact Le.cons ((hd _ (hk.sub _ ha _ hp) _).mpr ⟨ha, hp⟩) this
theorem above_min (hk : GrOk ks pr) (hr : ∀ k ∈ ks, ∀ p ∈ pr k, r p < r k) {C : List Int} : ∀ a ∈ ks, a ∉ C → ∃ n ∈ ks, n ∉ C ∧ (∀ p ∈ pr n, p ∈ C) ∧ Le pr n a := by
  intro a
  generalize hm : r a = m
  induction m using Nat.strongRecOn generalizing a with
  | ind m ih =>
    intro ha hc
    by_cases h : ∀ p ∈ pr a, p ∈ C
    · exact ⟨a, ha, hc, h, .refl a⟩
    · have : ∃ p ∈ pr a, p ∉ C := Classical.byContradiction fun z => h fun p hp => Classical.byContradiction fun y => z ⟨p, hp, y⟩
      obtain ⟨p, hp, hpc⟩ := this
      obtain ⟨n, h1, h2, h3, h4⟩ := ih (r p) (hm ▸ hr a ha p hp) p rfl (hk.sub a ha p hp) hpc
      exact ⟨n, h1, h2, h3, h4.step hp⟩
/-- the way back: the set before is what the turned road leaves out -/
theorem row_back (hk : GrOk ks pr) (hr : ∀ k ∈ ks, ∀ p ∈ pr k, r p < r k) (hd : ∀ k ∈ ks, ∀ m, m ∈ sc k ↔ m ∈ ks ∧ k ∈ pr m) {C C' B : List Int} (hC : ∀ n ∈ C, ∀ p ∈ pr n, p ∈ C) (hC' : ∀ a, a ∈ C' ↔ Row ks pr C a) (hB : ∀ a, a ∈ B ↔ a ∈ ks ∧ a ∉ C') {a : Int} (ha : a ∈ ks) : Row ks sc B a ↔ a ∉ C := by
  constructor
  · rintro ⟨n, h1, h2, h3, h4⟩ hac
    obtain ⟨_, h4⟩ := (Le.dual hk hd h1).mp h4
    have hn' : n ∈ C' := Classical.byContradiction fun z => h2 ((hB n).mpr ⟨h1, z⟩)
    obtain ⟨m, m1, m2, m3, m4⟩ := (hC' n).mp hn'
    rcases m4.head with rfl | ⟨s, s1, s2⟩
    · exact m2 (h4.down hC hac)
    · have hs := le_mem hk s2 m1
      have h5 := h3 s ((hd n h1 s).mpr ⟨hs, s1⟩)
      exact ((hB s).mp h5).2 ((hC' s).mpr ⟨m, m1, m2, m3, s2⟩)
  · intro hac
    obtain ⟨n, h1, h2, h3, h4⟩ := above_min hk hr a ha hac
    refine ⟨n, h1, fun z => ((hB n).mp z).2 ((hC' n).mpr ⟨n, h1, h2, h3, .refl n⟩), fun s hs => ?_, (Le.dual hk hd h1).mpr ⟨ha, h4⟩⟩
    obtain ⟨s1, s2⟩ := (hd n h1 s).mp hs
    refine (hB s).mpr ⟨s1, fun z => ?_⟩
    obtain ⟨m, m1, m2, m3, m4⟩ := (hC' s).mp z
    rcases Le.iff.mp (m4.cons s2) with rfl | ⟨p, p1, p2⟩
    · have a1 := le_rank hk hr m4 m1
      have a2 := hr s s1 n s2
      omega
    · exact h2 (p2.down hC (m3 p p1))
theorem row_down (hk : GrOk ks pr) {C : List Int} {n p : Int} (h : Row ks pr C n) (hp : p ∈ pr n) : Row ks pr C p := by
  obtain ⟨m, m1, m2, m3, m4⟩ := h
  exact ⟨m, m1, m2, m3, m4.cons hp⟩
theorem row_mem (hk : GrOk ks pr) {C : List Int} {n : Int} (h : Row ks pr C n) : n ∈ ks := by
  obtain ⟨m, m1, m2, m3, m4⟩ := h
  exact le_mem hk m4 m1
end
/-- five jobs -/
def k5 : List Int := [0, 1, 2, 3, 4]
theorem mem5 {a : Int} : a ∈ k5 ↔ 0 ≤ a ∧ a < 5 := by
  constructor
  · exact (by decide : ∀ a ∈ k5, 0 ≤ a ∧ a < 5) a
  · rintro ⟨h0, h5⟩
    obtain ⟨n, rfl⟩ := Int.eq_ofNat_of_zero_le h0
    exact (by decide : ∀ n : Nat, n < 5 → (n : Int) ∈ k5) n (Int.ofNat_lt.mp h5)
/-- graphs out of pairs -/
def prP (st : List Pr) (k : Int) : List Int := (st.filter fun p => p.2 == k).map (·.1)
def scP (st : List Pr) (k : Int) : List Int := (st.filter fun p => p.1 == k).map (·.2)
theorem mem_prP {st : List Pr} {k a : Int} : a ∈ prP st k ↔ (a, k) ∈ st := by
  unfold prP
  constructor
  · intro h
    obtain ⟨⟨x, y⟩, h1, rfl⟩ := List.mem_map.mp h
    obtain ⟨h2, h3⟩ := List.mem_filter.mp h1
    have : y = k := by simpa using h3
    subst this; exact h2
  · intro h; exact List.mem_map.mpr ⟨(a, k), List.mem_filter.mpr ⟨h, by simp⟩, rfl⟩
theorem mem_scP {st : List Pr} {k a : Int} : a ∈ scP st k ↔ (k, a) ∈ st := by
  unfold scP
  constructor
  · intro h
    obtain ⟨⟨x, y⟩, h1, rfl⟩ := List.mem_map.mp h
    obtain ⟨h2, h3⟩ := List.mem_filter.mp h1
    have : x = k := by simpa using h3
    subst this; exact h2
  · intro h; exact List.mem_map.mpr ⟨(k, a), List.mem_filter.mpr ⟨h, by simp⟩, rfl⟩
theorem nodup_prP {st : List Pr} (h : st.Nodup) (k : Int) : (prP st k).Nodup := by
  unfold prP
  rw [List.Nodup, List.pairwise_map]
  refine List.Pairwise.imp_of_mem ?_ (h.filter (fun p => p.2 == k))
  intro a b ha hb hne z
  have h1 : a.2 = k := by simpa using (List.mem_filter.mp ha).2
  have h2 : b.2 = k := by simpa using (List.mem_filter.mp hb).2
  exact hne (Prod.ext z (h1.trans h2.symm))
theorem nodup_scP {st : List Pr} (h : st.Nodup) (k : Int) : (scP st k).Nodup := by
  unfold scP
  rw [List.Nodup, List.pairwise_map]
  refine List.Pairwise.imp_of_mem ?_ (h.filter (fun p => p.1 == k))
  intro a b ha hb hne z
  have h1 : a.1 = k := by simpa using (List.mem_filter.mp ha).2
  have h2 : b.1 = k := by simpa using (List.mem_filter.mp hb).2
  exact hne (Prod.ext (h1.trans h2.symm) z)
/-- steps between the five, each from an earlier place to a later one -/
structure Steps (st : List Pr) (r : Int → Nat) : Prop where
  nodup : st.Nodup
  mem : ∀ p ∈ st, p.1 ∈ k5 ∧ p.2 ∈ k5
  up : ∀ p ∈ st, r p.1 < r p.2
  le : ∀ a, r a ≤ 5
theorem Steps.ok {st : List Pr} {r : Int → Nat} (h : Steps st r) : GrOk k5 (prP st) :=
  ⟨by decide, by decide, fun k _ => nodup_prP h.nodup k, fun k _ p hp => (h.mem _ (mem_prP.mp hp)).1⟩
theorem Steps.ok' {st : List Pr} {r : Int → Nat} (h : Steps st r) : GrOk k5 (scP st) :=
  ⟨by decide, by decide, fun k _ => nodup_scP h.nodup k, fun k _ p hp => (h.mem _ (mem_scP.mp hp)).2⟩
theorem Steps.rk {st : List Pr} {r : Int → Nat} (h : Steps st r) : ∀ k ∈ k5, ∀ p ∈ prP st k, r p < r k := fun k _ p hp => h.up _ (mem_prP.mp hp)
theorem Steps.rk' {st : List Pr} {r : Int → Nat} (h : Steps st r) : ∀ k ∈ k5, ∀ p ∈ scP st k, 5 - r p < 5 - r k := fun k _ p hp => by
  have h1 : r k < r p := h.up _ (mem_scP.mp hp)
  have := h.le p
  omega
theorem Steps.dual {st : List Pr} {r : Int → Nat} (h : Steps st r) : ∀ k ∈ k5, ∀ m, m ∈ scP st k ↔ m ∈ k5 ∧ k ∈ prP st m := fun k _ m => by
  rw [mem_scP, mem_prP]
  exact ⟨fun z => ⟨(h.mem _ z).2, z⟩, fun z => z.2⟩
end
section
theorem ritems_go {n : Nat} {QI : LIt → LS → Prop} {E : LX → LS → Prop} {σ : LS} (h : n ≤ 1000) (q : QI ((List.range n).map (fun i => LV.int (i : Nat)), fun _ => True) σ) : pritems (.rng 0 (n : Int) 1) QI E σ := by
  refine ⟨⟨by decide, by decide, by omega, by omega, .inl rfl⟩, ?_⟩
  have e : (Builtin.Range.rangeSize 0 (n : Int) 1).toNat = n := by
    unfold Builtin.Range.rangeSize
    rw [if_pos (by decide)]
    split <;> omega
  rw [e]
  have e2 : rngList 0 1 n = (List.range n).map (fun i => LV.int (i : Nat)) := by
    unfold rngList
    refine List.map_congr_left fun i _ => ?_
    simp
  rw [e2]
  exact q
theorem ritems5_go {QI : LIt → LS → Prop} {E : LX → LS → Prop} {σ : LS} (q : QI (k5.map .int, fun _ => True) σ) : pritems (.rng 0 5 1) QI E σ := ritems_go (n := 5) (by decide) q
set_option maxHeartbeats 4000000 in
theorem C_graph {T V : String} {selT selV : Pr → Int} {ℓ0 : String → Option LV} {τ0 : LH} {D : Nat} {st : List Pr} {sp : Nat} {Q : Unit → LS → Prop} {E : LX → LS → Prop} (hD : τ0 D = none) (hT : ∀ (p : Pr) (ℓ : String → Option LV) (τ : LH), (LS.set (LS.set ⟨ℓ, τ⟩ "first" (.int p.1)) "second" (.int p.2)).loc T = some (.int (selT p)))
    (hV : ∀ (p : Pr) (ℓ : String → Option LV) (τ : LH), (LS.set (LS.set ⟨ℓ, τ⟩ "first" (.int p.1)) "second" (.int p.2)).loc V = some (.int (selV p))) (hs : ℓ0 "steps" = some (.ref sp)) (hsp : τ0 sp = some (.list (st.map tp))) (hl : st.length ≤ 100)
    (hQ : ∀ τ', Ext τ0 τ' → Gr τ' D k5 (fun k => (st.filter fun p => selT p == k).map selV) → Q () ⟨ℓ0, τ'⟩) :
    pown [".0", "name"] (pcompL (fun _ => True) (pset "name") (pwhen (pret true) (pemitD (pget "name") (pcomp (.list []) (pbind (pget "steps") pitems) [".0", "first", "second"] (ptupT [(pset "first"), (pset "second")]) (fun D => pwhen (pbind (pget T) fun a => pbind (pget "name") fun b => peq a b) (pemit (pget V) D))) (.ref D))) (k5.map .int)) Q E ⟨ℓ0, upd τ0 D (.dict [] 0)⟩ := by
  refine compL_go (f := fun n => LV.int n) (fun pre _ σ' => Agree [".0", "name"] ℓ0 σ'.loc ∧ Ext τ0 σ'.heap ∧ ∃ (pa : Int → Nat) (ep : Nat), σ'.heap D = some (.dict (pre.map fun k => (k, .ref (pa k))) ep) ∧ ∀ k ∈ pre, σ'.heap (pa k) = some (.list (((st.filter fun p => selT p == k).map selV).map .int))) k5 ?_ ?_ ?_
  · refine ⟨fun y hy => ?_, Ext.new hD, fun _ => 0, 0, upd_same, by simp⟩
    show (if [".0", "name"].contains y = true then none else ℓ0 y) = ℓ0 y
    rw [hy]; rfl
  · rintro P pre x rest ⟨ℓ, τ⟩ he ⟨hℓ, hE, pa, ep, hDd, hpa⟩ hP
    simp only at hℓ hE hDd hpa
    refine ⟨True.intro, ?_⟩
    have hxn : x ∉ pre := fun z => by
      have : k5.Nodup := by decide
      rw [he, List.nodup_append] at this
      exact this.2.2 x z x (.head _) rfl
    have hpl : pre.length ≤ 5 := by
      have : k5.length = pre.length + (rest.length + 1) := by rw [he]; simp
      simp [k5] at this; omega
    have hsp' := hE _ _ hsp
    repeat trivial
    intro D2 hD2
    have hD2' : τ D2 = none := hD2
    have d1 : sp ≠ D2 := ne_sn hsp' hD2'
    have d2 : D ≠ D2 := ne_sn hDd hD2'
    have hℓ0 := hℓ
    refine comp_go (f := tp) (fun p => selT p == x) (fun p => .int (selV p)) (by unfold cap; omega) (fun ℓ' acc => by exact upd_ne d1 hsp') (fun p hp acc ℓ' hℓ => ?_) ?_
    · refine ⟨(LS.set (LS.set ⟨ℓ', τ⟩ "first" (.int p.1)) "second" (.int p.2)).loc, fun y hy => ?_, fun K h => ⟨⟨_, rfl, rfl⟩, h⟩, fun K h => ?_, fun hc K h => ?_⟩
      · show (if y = "second" then _ else if y = "first" then _ else ℓ' y) = _
        by_cases z : y = "second"
        · subst z; simp at hy
        · by_cases z2 : y = "first"
          · subst z2; simp at hy
          · simp only [if_neg z, if_neg z2]; exact hℓ y hy
      · refine ⟨_, hT p ℓ' τ, _, hℓ "name" rfl, h⟩
      · exact ⟨_, hV p ℓ' τ, h⟩
    · refine dset_go' (by exact upd_ne d2 hDd) (by simp only [List.length_map]; unfold cap; omega) (fun ep' τ' hτ' => ?_)
      rw [dput_map hxn] at hτ'
      have hτ' : upd (upd τ D2 (.list ((st.filter fun p => selT p == x).map fun p => LV.int (selV p)))) D (.dict ((pre ++ [x]).map fun n => (n, if n = x then LV.ref D2 else .ref (pa n))) ep') = τ' := hτ'
      refine hP _ ⟨fun y hy => ?_, ?_, fun n => if n = x then D2 else pa n, ep', ?_, fun k hk => ?_⟩
      · show (if y = "name" then _ else ℓ y) = ℓ0 y
        have : y ≠ "name" := fun z => by subst z; simp at hy
        rw [if_neg this]; exact hℓ0 y hy
      · rw [← hτ']; exact (hE.tr (Ext.new hD2')).upd hD
      · rw [← hτ']
        refine upd_same.trans (congrArg (fun l => some (LO.dict l ep')) (List.map_congr_left fun n _ => ?_))
        by_cases z : n = x <;> simp [z]
      · rw [← hτ']
        rcases List.mem_append.mp hk with z | z
        · have hkx : k ≠ x := fun y => hxn (y ▸ z)
          simp only [if_neg hkx]
          exact upd_ne (ne_oo (hpa k z) hDd (by simp)) (upd_new hD2' (hpa k z))
        · rw [List.mem_singleton] at z; subst z
          simp only [if_true]
          rw [List.map_map]
          exact upd_ne d2.symm upd_same
  · rintro ⟨ℓ, τ⟩ ⟨hℓ, hE, pa, ep, hDd, hpa⟩
    exact ⟨True.intro, hQ τ hE ⟨pa, ep, hDd, hpa⟩⟩
end
section
def lawTail (ad : Ad) : PTx LF :=
(pseq
  (pbind (pbind (pbind (pget "ahead") fun a => pbind (pret []) fun as => pret (a :: as)) (P_law_read ad)) fun v => pbind ((ptupT [(pset "ranks"), (pset "under")]) v) fun _ => pret .next)
  (pseq
  (pbind (pbind (pbind (pget "behind") fun a => pbind (pret []) fun as => pret (a :: as)) (P_law_read ad)) fun v => pbind ((ptupT [(pset "backs"), (pset "over")]) v) fun _ => pret .next)
  (pseq
  (pbind (pbind (pbind (pbind (pbind (pcomp (.list []) (pbind (pbind (pbind (pret (.int 5)) fun a => pbind (pret []) fun as => pret (a :: as)) prange1) pritems) [".0", "name"] (pset "name") (fun D => pwhen (pbind (pbind (pbind (pget "code") fun a => pbind (pbind (pret (.int 2)) fun a => pbind (pbind (pret (.int 10)) fun a => pbind (pget "name") fun b => padd a b) fun b => ppow a b) fun b => pdiv a b) fun a => pbind (pret (.int 2)) fun b => pmod a b) ptruth) (pemit (pbind (pget "under") fun a => pbind (pget "name") fun b => pdget a b) D))) fun a => pbind (pret []) fun as => pret (a :: as)) (P_law_joined ad)) fun a => pbind (pret []) fun as => pret (a :: as)) plist) fun v => pbind (pset "rows" v) fun _ => pret .next)
  (pseq
  (pfor (pbind (pbind (pbind (pret (.int 2)) fun a => pbind (pret []) fun as => pret (a :: as)) prange1) pritems) (pset "turn") (pseq
  (pbind (pbind (pget "rows") fun a => pbind (pislist a) fun _ => pbind (pbind (pbind (pbind (pget "ahead") fun a => pbind (pbind (pget "ranks") fun a => pbind (pbind (pget "under") fun a => pbind (pbind (pbind (pget "rows") fun a => pbind (pbind (pret (.int 1)) pneg) fun b => pllast a b) fun a => pbind (pret []) fun as => pret (a :: as)) fun as => pret (a :: as)) fun as => pret (a :: as)) fun as => pret (a :: as)) (P_law_following ad)) fun a => pbind (pret []) fun as => pret (a :: as)) fun as => plappend a as) fun _ => pret .next)
  (pif (pbind (pbind (pget "rows") fun a => pbind (pbind (pret (.int 1)) pneg) fun b => pllast a b) fun a => pbind (pbind (pbind (pget "ahead") fun a => pbind (pbind (pget "ranks") fun a => pbind (pbind (pbind (pget "rows") fun a => pbind (pbind (pret (.int 2)) pneg) fun b => plneg a b) fun a => pbind (pret []) fun as => pret (a :: as)) fun as => pret (a :: as)) fun as => pret (a :: as)) (P_law_switched ad)) fun b => pnot pleq a b) (pbind (pret (.bool false)) fun v => pret (.ret v)) (pret .next))) (pret .next))
  (pseq
  (pbind (pbind (pbind (pbind (pbind (pret (.int 5)) fun a => pbind (pret []) fun as => pret (a :: as)) prange1) fun a => pbind (pret []) fun as => pret (a :: as)) plistof) fun v => pbind (pset "names" v) fun _ => pret .next)
  (pseq
  (pfor (pbind (pbind (pbind (pret (.int 2)) fun a => pbind (pbind (pret (.int 0)) fun a => pbind (pbind (pbind (pret (.int 1)) pneg) fun a => pbind (pret []) fun as => pret (a :: as)) fun as => pret (a :: as)) fun as => pret (a :: as)) prange3) pritems) (pset "turn") (pseq
  (pbind (pbind (pbind (pbind (pget "names") fun a => pbind (pbind (pbind (pget "rows") fun a => pbind (pget "turn") fun b => plget a b) fun a => pbind (pret []) fun as => pret (a :: as)) fun as => pret (a :: as)) (P_sorted_list_difference ad)) fun a => pbind (pret (.int 0)) fun b => ptget a b) fun v => pbind (pset "outside" v) fun _ => pret .next)
  (pseq
  (pbind (pbind (pbind (pget "behind") fun a => pbind (pbind (pget "backs") fun a => pbind (pbind (pget "over") fun a => pbind (pbind (pget "outside") fun a => pbind (pret []) fun as => pret (a :: as)) fun as => pret (a :: as)) fun as => pret (a :: as)) fun as => pret (a :: as)) (P_law_following ad)) fun v => pbind (pset "followed" v) fun _ => pret .next)
  (pif (pbind (pbind (pbind (pbind (pget "names") fun a => pbind (pbind (pget "followed") fun a => pbind (pret []) fun as => pret (a :: as)) fun as => pret (a :: as)) (P_sorted_list_difference ad)) fun a => pbind (pret (.int 0)) fun b => ptget a b) fun a => pbind (pbind (pget "rows") fun a => pbind (pbind (pget "turn") fun a => pbind (pret (.int 1)) fun b => psub a b) fun b => plget a b) fun b => pnot pleq a b) (pbind (pret (.bool false)) fun v => pret (.ret v)) (pret .next)))) (pret .next))
  (pbind (pret (.bool true)) fun v => pret (.ret v))))))))
theorem listof5_go {Q : LV → LS → Prop} {E : LX → LS → Prop} {σ : LS} (q : ∀ d, σ.heap d = none → Q (.ref d) ⟨σ.loc, upd σ.heap d (.list (k5.map .int))⟩) : plistof [.rng 0 5 1] Q E σ := ⟨rfl, rfl, by decide, by decide, fun d hd => q d hd⟩
theorem ritems21_go {QI : LIt → LS → Prop} {E : LX → LS → Prop} {σ : LS} (q : QI ([2, 1].map (fun t : Nat => LV.int (t : Int)), fun _ => True) σ) : pritems (.rng 2 0 (-1)) QI E σ := ⟨by decide, q⟩
theorem int_ref {W : List Int} {L : List (Nat × List Int)} (h : L ≠ []) : LO.list (W.map .int) ≠ LO.list (L.map fun p => LV.ref p.1) := fun z => by
  cases L with
  | nil => exact h rfl
  | cons a L => cases W <;> simp at z
theorem pow10 {n : Int} (h : n ∈ k5) : (0 ≤ 10 + n ∧ 10 + n ≤ 1000 ∧ (2 : Int).natAbs ≤ 16) ∧ (((2 : Int) ^ (10 + n).toNat) ≠ 0 ∧ ((2 : Int) ^ (10 + n).toNat).natAbs < 2 ^ 20) := by
  rw [k5] at h
  simp only [List.mem_cons, List.not_mem_nil, or_false] at h
  rcases h with rfl | rfl | rfl | rfl | rfl <;> decide
theorem lneg_go {Q : LV → LS → Prop} {E : LX → LS → Prop} {σ : LS} {a : Nat} {xs : List LV} {k : Int} {v : LV} (h : σ.heap a = some (.list xs)) (hk : k < 0) (h0 : 0 ≤ k + xs.length) (h1 : xs[(k + xs.length).toNat]? = some v) (q : Q v σ) : plneg (.ref a) (.int k) Q E σ := ⟨xs, v, h, hk, h0, h1, q⟩
set_option maxHeartbeats 8000000 in
theorem law_tail {ad : Ad} {σ : LS} {st : List Pr} {r : Int → Nat} (hS : Steps st r) {c : Int} {g g' : Nat} (l1 : σ.loc "code" = some (.int c)) (l2 : σ.loc "ahead" = some (.ref g)) (l3 : σ.loc "behind" = some (.ref g')) (hg : Gr σ.heap g k5 (prP st)) (hg' : Gr σ.heap g' k5 (scP st)) :
    lawTail ad (fun f _ => f = .ret (.bool true)) noE σ := by
  unfold lawTail
  have hok := hS.ok
  have hok' := hS.ok'
  repeat trivial
  refine C_read (E := noE) (r := r) hg hok hS.rk ?_
  intro τ1 ra un O rk ua U hE1 hOn hO hR
  repeat trivial
  refine C_read (E := noE) (r := fun a => 5 - r a) (by exact hg'.ext hE1) hok' hS.rk' ?_
  intro τ2 rb ov O' rk' ua' U' hE2 hOn' hO' hR'
  have hR2 := hR.ext hE2
  obtain ⟨epu, hu1⟩ := hR2.un
  repeat trivial
  refine ritems5_go ?_
  intro Dl hDl
  have hDl' : τ2 Dl = none := hDl
  have d1 : un ≠ Dl := ne_sn hu1 hDl'
  refine comp_go (f := fun n => LV.int n) (fun n => (c.fdiv (2 ^ (10 + n).toNat)).fmod 2 != 0) (fun n => .ref (ua n)) (by decide) (fun ℓ' acc => True.intro) (fun o ho acc ℓ' hℓ => ?_) ?_
  · have lku : (O.map fun n => (n, LV.ref (ua n))).lookup o = some (.ref (ua o)) := by rw [lookup_map, if_pos ((hO o).mpr ho)]
    obtain ⟨p1, p2⟩ := pow10 ho
    refine ⟨fun y => if y = "name" then some (.int o) else ℓ' y, fun y hy => ?_, fun K h => h, fun K h => ?_, fun hc K h => ?_⟩
    · by_cases z : y = "name"
      · subst z; simp at hy
      · simp only [if_neg z]; exact hℓ y hy
    · repeat trivial
    · repeat trivial
  refine C_joined (E := noE) (rws := (k5.filter fun n => (c.fdiv (2 ^ (10 + n).toNat)).fmod 2 != 0).map fun o => (ua o, U o)) (by rw [List.map_map]; exact upd_same) ?_ ?_
  · intro p hp
    obtain ⟨o, ho, rfl⟩ := List.mem_map.mp hp
    have hok5 : o ∈ k5 := (List.mem_filter.mp ho).1
    have hoO : o ∈ O := (hO o).mpr hok5
    exact ⟨upd_new hDl' (hR2.ual o hoO), hR2.uS o hoO, fun b hb => hok.sm b (le_mem hok ((hR2.uM o hoO b).mp hb) hok5)⟩
  intro c0 τ3 W0 hE3 hc0 sW0 mW0
  have hE23 : Ext τ2 τ3 := (Ext.new hDl').tr hE3
  have hR3 := hR2.ext hE23
  have hR3' := hR'.ext hE23
  have hg3 := (hg.ext (hE1.tr hE2)).ext hE23
  have hg3' := (hg'.ext (hE1.tr hE2)).ext hE23
  have mW0' : ∀ a, a ∈ W0 → ∃ o ∈ k5, o ∈ (k5.filter fun n => (c.fdiv (2 ^ (10 + n).toNat)).fmod 2 != 0) ∧ Le (prP st) a o := fun a ha => by
    obtain ⟨p, h1, h2⟩ := (mW0 a).mp ha
    obtain ⟨o, ho, rfl⟩ := List.mem_map.mp h1
    have hok5 : o ∈ k5 := (List.mem_filter.mp ho).1
    exact ⟨o, hok5, ho, (hR.uM o ((hO o).mpr hok5) a).mp h2⟩
  have hW0k : ∀ n ∈ W0, n ∈ k5 := fun n hn => by
    obtain ⟨o, h1, _, h2⟩ := mW0' n hn
    exact le_mem hok h2 h1
  have hW0d : ∀ n ∈ W0, ∀ p ∈ prP st n, p ∈ W0 := fun n hn p hp => by
    obtain ⟨o, h1, h3, h2⟩ := mW0' n hn
    exact (mW0 p).mpr ⟨_, List.mem_map_of_mem h3, (hR.uM o ((hO o).mpr h1) p).mpr (h2.cons hp)⟩
  repeat trivial
  intro rw' hrw
  have hrw' : τ3 rw' = none := hrw
  trivial
  refine ritems_go (n := 2) (by decide) ?_
  refine for_go (f := fun i : Nat => LV.int (i : Int)) (fun pre _ σ' => σ'.loc "ahead" = some (.ref g) ∧ σ'.loc "behind" = some (.ref g') ∧ σ'.loc "ranks" = some (.ref ra) ∧ σ'.loc "under" = some (.ref un) ∧ σ'.loc "backs" = some (.ref rb) ∧ σ'.loc "over" = some (.ref ov) ∧ σ'.loc "rows" = some (.ref rw') ∧ Ext τ3 σ'.heap ∧ ∃ L : List (Nat × List Int), L.length = pre.length + 1 ∧ σ'.heap rw' = some (.list (L.map fun p => .ref p.1)) ∧ (∀ p ∈ L, σ'.heap p.1 = some (.list (p.2.map .int)) ∧ SS p.2 ∧ (∀ n ∈ p.2, n ∈ k5) ∧ ∀ n ∈ p.2, ∀ q ∈ prP st n, q ∈ p.2) ∧ (∀ i a b, L[i]? = some a → L[i + 1]? = some b → ∀ x, x ∈ b.2 ↔ Row k5 (prP st) a.2 x)) (List.range 2) ?_ ?_ ?_
  · refine ⟨l2, l3, rfl, rfl, rfl, rfl, rfl, Ext.new hrw', [(c0, W0)], rfl, upd_same, fun p hp => ?_, fun i a b h1 h2 => ?_⟩
    · rw [List.mem_singleton] at hp; subst hp
      exact ⟨upd_new hrw' hc0, sW0, hW0k, hW0d⟩
    · simp at h2
  · rintro P pre x rest ⟨ℓ, τ⟩ hx ⟨e1, e2, e3, e4, e5, e6, e7, hE, L, hL, hrL, hLp, hLc⟩ hP
    simp only at e1 e2 e3 e4 e5 e6 e7 hE hrL hLp
    refine ⟨True.intro, ?_⟩
    rcases List.eq_nil_or_concat L with rfl | ⟨L', ⟨cl, Wl⟩, rfl⟩
    · simp at hL
    rw [List.concat_eq_append] at *
    obtain ⟨hcl, sWl, hWlk, hWld⟩ := hLp (cl, Wl) (by simp)
    simp only at hcl sWl hWlk hWld
    have hgl : ((L' ++ [(cl, Wl)]).map fun p => LV.ref p.1).getLast? = some (.ref cl) := by simp
    repeat trivial
    refine C_following (E := noE) (r := r) (by exact hg3.ext hE) hok hS.rk hO (by exact hR3.ext hE) (by exact hcl) sWl hWlk hWld ?_
    intro c1 τ5 W1 hE5 hc1 sW1 mW1
    have hrL5 := hE5 _ _ hrL
    have hne : c1 ≠ rw' := ne_oo hc1 hrL5 (int_ref (by simp))
    have hll : (L' ++ [(cl, Wl)]).length ≤ 3 := by
      have : pre.length + (rest.length + 1) = 2 := by
        have := congrArg List.length hx; simp at this; omega
      omega
    refine lappend_go (by exact hrL5) (by simp only [List.length_map]; unfold cap; omega) ?_
    have hgl2 : ((L' ++ [(cl, Wl)]).map (fun p : Nat × List Int => LV.ref p.1) ++ [LV.ref c1]).getLast? = some (.ref c1) := by simp
    have hE6 : Ext τ3 (upd τ5 rw' (.list ((L' ++ [(cl, Wl)]).map (fun p : Nat × List Int => LV.ref p.1) ++ [LV.ref c1]))) := (hE.tr hE5).upd hrw'
    have hLp6 : ∀ p ∈ L' ++ [(cl, Wl)], upd τ5 rw' (.list ((L' ++ [(cl, Wl)]).map (fun p : Nat × List Int => LV.ref p.1) ++ [LV.ref c1])) p.1 = some (.list (p.2.map .int)) := fun p hp => upd_ne (ne_oo (hLp p hp).1 hrL (int_ref (by simp))) (hE5 _ _ (hLp p hp).1)
    repeat trivial
    refine lneg_go (v := .ref cl) (by exact upd_same) (by decide) (by simp; omega) ?_ ?_
    · simp only [List.length_append, List.length_map, List.length_cons, List.length_nil]
      have : ((-2 : Int) + ((L'.length + (0 + 1) + (0 + 1) : Nat) : Int)).toNat = L'.length := by omega
      rw [this]
      simp
    refine C_switched (E := noE) (by exact hg3.ext hE6) hok hO (by exact hR3.ext hE6) (by exact hLp6 (cl, Wl) (by simp)) sWl hWlk hWld ?_
    intro c2 τ7 W2 hE7 hc2 sW2 mW2
    have hW : W1 = W2 := ss_ext sW1 sW2 fun a => by
      rw [mW1, mW2]
      exact ⟨fun h => ⟨row_mem hok h, h⟩, fun h => h.2⟩
    refine not_go ?_
    refine leq_go (is := W1) (js := W2) (by exact hE7 _ _ (upd_ne hne hc1)) (by exact hc2) ?_
    refine if_false' (by simp [hW]) ?_
    refine hP _ ⟨e1, e2, e3, e4, e5, e6, e7, hE6.tr hE7, L' ++ [(cl, Wl)] ++ [(c1, W1)], ?_, ?_, fun p hp => ?_, fun i a b h1 h2 => ?_⟩
    · simp at hL ⊢; omega
    · have h9 := hE7 _ _ (upd_same (τ := τ5) (a := rw') (o := .list ((L' ++ [(cl, Wl)]).map (fun p : Nat × List Int => LV.ref p.1) ++ [LV.ref c1])))
      refine h9.trans ?_
      simp
    · rcases List.mem_append.mp hp with z | z
      · exact ⟨hE7 _ _ (hLp6 p z), (hLp p z).2⟩
      · rw [List.mem_singleton] at z; subst z
        exact ⟨hE7 _ _ (upd_ne hne hc1), sW1, fun n hn => row_mem hok ((mW1 n).mp hn), fun n hn q hq => (mW1 q).mpr (row_down hok ((mW1 n).mp hn) hq)⟩
    · by_cases z : i + 1 < (L' ++ [(cl, Wl)]).length
      · rw [List.getElem?_append_left (by omega)] at h1
        rw [List.getElem?_append_left z] at h2
        exact hLc i a b h1 h2
      · have hi : i = L'.length := by
          have h3 : i + 1 < (L' ++ [(cl, Wl)] ++ [(c1, W1)]).length := (List.getElem?_eq_some_iff.mp h2).1
          simp at z h3; omega
        subst hi
        simp at h1 h2
        subst h1 h2
        exact mW1
  · rintro ⟨ℓ, τ⟩ ⟨e1, e2, e3, e4, e5, e6, e7, hE, L, hL, hrL, hLp, hLc⟩
    simp only at e1 e2 e3 e4 e5 e6 e7 hE hrL hLp
    refine ⟨True.intro, ?_⟩
    repeat trivial
    refine listof5_go ?_
    intro nm hnm
    have hnm' : τ nm = none := hnm
    have hrL6 : upd τ nm (.list (k5.map .int)) rw' = _ := upd_new hnm' hrL
    have hLp6 : ∀ p ∈ L, upd τ nm (.list (k5.map .int)) p.1 = some (.list (p.2.map .int)) := fun p hp => upd_new hnm' (hLp p hp).1
    have hE6 : Ext τ3 (upd τ nm (.list (k5.map .int))) := hE.tr (Ext.new hnm')
    have hnm6 : upd τ nm (.list (k5.map .int)) nm = some (.list (k5.map .int)) := upd_same
    iterate 2 trivial
    refine ritems21_go ?_
    refine for_go (f := fun t : Nat => LV.int (t : Int)) (fun _ _ σ' => σ'.loc "behind" = some (.ref g') ∧ σ'.loc "backs" = some (.ref rb) ∧ σ'.loc "over" = some (.ref ov) ∧ σ'.loc "rows" = some (.ref rw') ∧ σ'.loc "names" = some (.ref nm) ∧ Ext (upd τ nm (.list (k5.map .int))) σ'.heap) [2, 1] ⟨e2, e5, e6, e7, rfl, Ext.rfl'⟩ ?_ ?_
    · rintro P pre t rest ⟨ℓ2, τ8⟩ ht ⟨f2, f5, f6, f7, f8, hF⟩ hP
      simp only at f2 f5 f6 f7 f8 hF
      refine ⟨True.intro, ?_⟩
      have hL3 : L.length = 3 := by simpa using hL
      have ht2 : t = 2 ∨ t = 1 := by
        have : t ∈ [2, 1] := by rw [ht]; simp
        simpa using this
      obtain ⟨hcs, hCs, hb⟩ : ∃ (a b : Nat × List Int), L[t - 1]? = some a ∧ L[t]? = some b := by
        refine ⟨L[t - 1]'(by omega), L[t]'(by omega), ?_, ?_⟩
        · rw [List.getElem?_eq_getElem]
        · rw [List.getElem?_eq_getElem]
      obtain ⟨hb1, hb2⟩ := hb
      have hm1 : hcs ∈ L := List.mem_of_getElem? hb1
      have hm2 : hCs ∈ L := List.mem_of_getElem? hb2
      have hrow := hLc (t - 1) hcs hCs hb1 (by rw [show t - 1 + 1 = t by omega]; exact hb2)
      obtain ⟨_, s1, k1, dn1⟩ := hLp hcs hm1
      obtain ⟨_, s2, k2, dn2⟩ := hLp hCs hm2
      have hr8 := hF _ _ hrL6
      have h81 := hF _ _ (hLp6 hcs hm1)
      have h82 := hF _ _ (hLp6 hCs hm2)
      have hn8 := hF _ _ hnm6
      have hE8 := hE6.tr hF
      have g1 : (L.map fun p => LV.ref p.1)[((t : Int)).toNat]? = some (.ref hCs.1) := by rw [List.getElem?_map, Int.toNat_natCast, hb2]; rfl
      have g2 : (L.map fun p => LV.ref p.1)[((t : Int) - 1).toNat]? = some (.ref hcs.1) := by
        rw [List.getElem?_map, show ((t : Int) - 1).toNat = t - 1 by omega, hb1]; rfl
      have s5 : SS k5 := by decide
      have l2 : hCs.2.length ≤ 20 := ss_len (ss_nodup s2) fun a ha => hok.sm a (k2 a ha)
      repeat trivial
      refine C_sld (E := noE) (xs := k5) (ys := hCs.2) (by exact hn8) (by exact h82) s5 s2 (by decide) (by omega) ?_
      intro m u τ9 hm9 hu9 hmu hE9 hτm hτu
      have hB : ∀ a, a ∈ lessL k5 hCs.2 ↔ a ∈ k5 ∧ a ∉ hCs.2 := fun a => mem_lessL
      have hE39 := hE8.tr hE9
      repeat trivial
      refine C_following (E := noE) (r := fun a => 5 - r a) (by exact hg3'.ext hE39) hok' hS.rk' hO' (by exact hR3'.ext hE39) (by exact hτm) (ss_less s5) (fun n hn => ((hB n).mp hn).1) (fun n hn p hp => ?_) ?_
      · obtain ⟨h1, h2⟩ := (hB n).mp hn
        obtain ⟨h3, h4⟩ := (hS.dual n h1 p).mp hp
        exact (hB p).mpr ⟨h3, fun z => h2 (dn2 p z n h4)⟩
      intro w τ10 W hE10 hw sW mW
      have hE810 := hE9.tr hE10
      have hn10 := hE810 _ _ hn8
      have hr10 := hE810 _ _ hr8
      have h10 := hE810 _ _ h81
      have lW : W.length ≤ 20 := ss_len (ss_nodup sW) fun a ha => hok'.sm a (row_mem hok' ((mW a).mp ha))
      repeat trivial
      refine C_sld (E := noE) (xs := k5) (ys := W) (by exact hn10) (by exact hw) s5 sW (by decide) (by omega) ?_
      intro m2 u2 τ11 hm11 hu11 hmu2 hE11 hτm2 hτu2
      have hr11 := hE11 _ _ hr10
      have h11 := hE11 _ _ h10
      have heq : lessL k5 W = hcs.2 := ss_ext (ss_less s5) s1 fun a => by
        rw [mem_lessL]
        constructor
        · rintro ⟨h1, h2⟩
          refine Classical.byContradiction fun z => h2 ((mW a).mpr ?_)
          exact (row_back hok hS.rk hS.dual dn1 hrow hB h1).mpr z
        · intro h
          have h1 := k1 a h
          exact ⟨h1, fun z => (row_back hok hS.rk hS.dual dn1 hrow hB h1).mp ((mW a).mp z) h⟩
      repeat trivial
      refine not_go ?_
      refine leq_go (is := lessL k5 W) (js := hcs.2) (by exact hτm2) (by exact h11) ?_
      refine if_false' (by simp [heq]) ?_
      exact hP _ ⟨f2, f5, f6, f7, f8, hF.tr (hE810.tr hE11)⟩
    · rintro ⟨ℓ, τ⟩ ⟨f2, f5, f6, f7, f8, hF⟩
      exact ⟨True.intro, rfl⟩
end
section
def idx10 : List (Nat × Nat) := [(0, 1), (0, 2), (1, 2), (0, 3), (1, 3), (2, 3), (0, 4), (1, 4), (2, 4), (3, 4)]
set_option maxHeartbeats 4000000 in
theorem C_pairs {ℓ0 : String → Option LV} {τ0 : LH} {h D : Nat} {f : Nat → Int} {Q : Unit → LS → Prop} {E : LX → LS → Prop} (hD : τ0 D = none) (hl : ℓ0 "hidden" = some (.ref h)) (hh : τ0 h = some (.list ((List.range 5).map fun i => LV.int (f i))))
    (hQ : Q () ⟨ℓ0, upd τ0 D (.list ((idx10.map fun q => (f q.1, f q.2)).map tp))⟩) :
    pown [".0", "late", "early"] (pcompL (fun _ => True) (pset "late") (pwhen (pret true) (pcomp2 (pbind (pbind (pbind (pget "late") fun a => pbind (pret []) fun as => pret (a :: as)) prange1) pritems) (pset "early") (pwhen (pret true) (pemit (pbind (pbind (pbind (pget "hidden") fun a => pbind (pget "early") fun b => plget a b) fun a => pbind (pbind (pbind (pget "hidden") fun a => pbind (pget "late") fun b => plget a b) fun a => pbind (pret []) fun as => pret (a :: as)) fun as => pret (a :: as)) ptuple) (.ref D))))) ((List.range 5).map fun i => LV.int (i : Nat))) Q E ⟨ℓ0, upd τ0 D (.list [])⟩ := by
  have hnD : h ≠ D := ne_sn hh hD
  refine compL_go (f := fun i : Nat => LV.int (i : Int)) (fun pre _ σ' => Agree [".0", "late", "early"] ℓ0 σ'.loc ∧ σ'.heap = upd τ0 D (.list (pre.flatMap fun l => (List.range l).map fun e => tp (f e, f l)))) (List.range 5) ?_ ?_ ?_
  · refine ⟨fun y hy => ?_, rfl⟩
    show (if [".0", "late", "early"].contains y = true then none else ℓ0 y) = ℓ0 y
    rw [hy]; rfl
  · rintro P pre l rest ⟨ℓ, τ⟩ he ⟨hℓ, hτ⟩ hP
    simp only at hℓ hτ
    subst hτ
    refine ⟨True.intro, ?_⟩
    have hl5 : l < 5 := by
      have : l ∈ List.range 5 := by rw [he]; simp
      simpa using this
    iterate 3 trivial
    refine ritems_go (n := l) (by omega) ?_
    have hlen : (pre.flatMap fun l => (List.range l).map fun e => tp (f e, f l)).length ≤ 100 := by
      have h1 : ∀ (p : List Nat), (∀ x ∈ p, x < 5) → (p.flatMap fun l => (List.range l).map fun e => tp (f e, f l)).length ≤ 5 * p.length := by
        intro p
        induction p with
        | nil => simp
        | cons a p ih =>
          intro hx
          have := ih fun x hx' => hx x (.tail _ hx')
          have := hx a (.head _)
          simp only [List.flatMap_cons, List.length_append, List.length_map, List.length_range, List.length_cons]
          omega
      have h2 := h1 pre fun x hx => by
        have : x ∈ List.range 5 := by rw [he]; simp [hx]
        simpa using this
      have h3 : pre.length ≤ 5 := by
        have := congrArg List.length he
        simp at this; omega
      omega
    refine compL_go (f := fun i : Nat => LV.int (i : Int)) (fun p2 _ σ' => Agree [".0", "late", "early"] ℓ0 σ'.loc ∧ σ'.loc "late" = some (.int l) ∧ σ'.heap = upd τ0 D (.list ((pre.flatMap fun l => (List.range l).map fun e => tp (f e, f l)) ++ p2.map fun e => tp (f e, f l)))) (List.range l) ?_ ?_ ?_
    · refine ⟨fun y hy => ?_, rfl, by rw [List.map_nil, List.append_nil]; rfl⟩
      show (if y = "late" then _ else ℓ y) = ℓ0 y
      have : y ≠ "late" := fun z => by subst z; simp at hy
      rw [if_neg this]; exact hℓ y hy
    · rintro P2 p2 e r2 ⟨ℓ2, τ2⟩ he2 ⟨hℓ, hlate, hτ⟩ hP2
      simp only at hℓ hτ hlate
      subst hτ
      have hel : e < l := by
        have : e ∈ List.range l := by rw [he2]; simp
        simpa using this
      have hp2 : p2.length ≤ 5 := by
        have := congrArg List.length he2
        simp at this; omega
      refine ⟨True.intro, ?_⟩
      have g1 : ((List.range 5).map fun i => LV.int (f i))[((e : Nat) : Int).toNat]? = some (.int (f e)) := by
        rw [Int.toNat_natCast, List.getElem?_map, List.getElem?_range (by omega)]; rfl
      have g2 : ((List.range 5).map fun i => LV.int (f i))[((l : Nat) : Int).toNat]? = some (.int (f l)) := by
        rw [Int.toNat_natCast, List.getElem?_map, List.getElem?_range (by omega)]; rfl
      repeat trivial
      refine lappend_go (by exact upd_same) (by simp only [List.length_append, List.length_map]; unfold cap; omega) ?_
      refine hP2 _ ⟨fun y hy => ?_, hlate, ?_⟩
      · show (if y = "early" then _ else ℓ2 y) = ℓ0 y
        have : y ≠ "early" := fun z => by subst z; simp at hy
        rw [if_neg this]; exact hℓ y hy
      · show upd (upd _ _ _) _ _ = _
        rw [upd_upd, List.map_append, List.append_assoc]
        rfl
    · rintro ⟨ℓ2, τ2⟩ ⟨hℓ, hlate, hτ⟩
      simp only at hℓ hτ
      refine ⟨True.intro, hP _ ⟨hℓ, ?_⟩⟩
      rw [hτ]; simp
  · rintro ⟨ℓ, τ⟩ ⟨hℓ, hτ⟩
    simp only at hτ
    subst hτ
    exact ⟨True.intro, hQ⟩
theorem zip_sub {α : Type} {p : α × Nat → Bool} : ∀ (l : List α) (k : Nat), (((l.zipIdx k).filter p).map (·.1)).Sublist l
  | [], k => by simp
  | a :: l, k => by
    rw [List.zipIdx_cons]
    by_cases h : p (a, k) = true
    · rw [List.filter_cons_of_pos h]; exact (zip_sub l (k + 1)).cons_cons a
    · rw [List.filter_cons_of_neg h]; exact (zip_sub l (k + 1)).cons a
def rOf (f : Nat → Int) (a : Int) : Nat := if a = f 0 then 0 else if a = f 1 then 1 else if a = f 2 then 2 else if a = f 3 then 3 else 4
theorem rOf_at {f : Nat → Int} (hi : ∀ i < 5, ∀ j < 5, f i = f j → i = j) {i : Nat} (h : i < 5) : rOf f (f i) = i := by
  unfold rOf
  by_cases e0 : f i = f 0
  · rw [if_pos e0]; exact (hi i h 0 (by decide) e0).symm
  rw [if_neg e0]
  by_cases e1 : f i = f 1
  · rw [if_pos e1]; exact (hi i h 1 (by decide) e1).symm
  rw [if_neg e1]
  by_cases e2 : f i = f 2
  · rw [if_pos e2]; exact (hi i h 2 (by decide) e2).symm
  rw [if_neg e2]
  by_cases e3 : f i = f 3
  · rw [if_pos e3]; exact (hi i h 3 (by decide) e3).symm
  rw [if_neg e3]
  have n0 : i ≠ 0 := fun z => e0 (by rw [z])
  have n1 : i ≠ 1 := fun z => e1 (by rw [z])
  have n2 : i ≠ 2 := fun z => e2 (by rw [z])
  have n3 : i ≠ 3 := fun z => e3 (by rw [z])
  omega
theorem steps_of {f : Nat → Int} (hi : ∀ i < 5, ∀ j < 5, f i = f j → i = j) (hr : ∀ i < 5, 0 ≤ f i ∧ f i < 5) {st : List Pr} (hs : st.Sublist (idx10.map fun q => (f q.1, f q.2))) : Steps st (rOf f) := by
  have hb : ∀ q ∈ idx10, q.1 < q.2 ∧ q.2 < 5 := by decide
  have hm : ∀ p ∈ st, ∃ q ∈ idx10, p = (f q.1, f q.2) := fun p hp => by
    obtain ⟨q, h1, h2⟩ := List.mem_map.mp (hs.subset hp)
    exact ⟨q, h1, h2.symm⟩
  refine ⟨hs.nodup ?_, fun p hp => ?_, fun p hp => ?_, fun a => ?_⟩
  · rw [List.Nodup, List.pairwise_map]
    refine List.Pairwise.imp_of_mem ?_ (by decide : idx10.Nodup)
    intro a b ha hb' hne z
    have z1 := congrArg Prod.fst z
    have z2 := congrArg Prod.snd z
    have b1 := hb a ha; have b2 := hb b hb'
    exact hne (Prod.ext (hi _ (by omega) _ (by omega) z1) (hi _ (by omega) _ (by omega) z2))
  · obtain ⟨q, h1, rfl⟩ := hm p hp
    have b := hb q h1
    exact ⟨mem5.mpr (hr _ (by omega)), mem5.mpr (hr _ (by omega))⟩
  · obtain ⟨q, h1, rfl⟩ := hm p hp
    have b := hb q h1
    show rOf f (f q.1) < rOf f (f q.2)
    rw [rOf_at hi (by omega), rOf_at hi (by omega)]; exact b.1
  · unfold rOf; repeat (first | omega | split)
theorem hidden_inj (s c : Int) : ∀ i < 5, ∀ j < 5, (s + (1 + c.fmod 4) * ((i : Nat) : Int)).fmod 5 = (s + (1 + c.fmod 4) * ((j : Nat) : Int)).fmod 5 → i = j := by
  intro i hi j hj
  simp only [Int.fmod_eq_emod_of_nonneg _ (by decide : (0 : Int) ≤ 4), Int.fmod_eq_emod_of_nonneg _ (by decide : (0 : Int) ≤ 5)]
  have h4 : c % 4 = 0 ∨ c % 4 = 1 ∨ c % 4 = 2 ∨ c % 4 = 3 := by omega
  rcases h4 with h | h | h | h <;> rw [h] <;> omega
theorem hidden_rng (s c : Int) (i : Nat) : 0 ≤ (s + (1 + c.fmod 4) * (i : Int)).fmod 5 ∧ (s + (1 + c.fmod 4) * (i : Int)).fmod 5 < 5 := by
  rw [Int.fmod_eq_emod_of_nonneg _ (by decide : (0 : Int) ≤ 5)]
  omega
end
section
theorem pow2 {n : Nat} (h : n < 10) : (0 ≤ (n : Int) ∧ (n : Int) ≤ 1000 ∧ (2 : Int).natAbs ≤ 16) ∧ (((2 : Int) ^ (n : Int).toNat) ≠ 0 ∧ ((2 : Int) ^ (n : Int).toNat).natAbs < 2 ^ 20) :=
  (by decide : ∀ n : Nat, n < 10 → (0 ≤ (n : Int) ∧ (n : Int) ≤ 1000 ∧ (2 : Int).natAbs ≤ 16) ∧ (((2 : Int) ^ (n : Int).toNat) ≠ 0 ∧ ((2 : Int) ^ (n : Int).toNat).natAbs < 2 ^ 20)) n h
theorem zip_lt {α : Type} {l : List α} {x : α × Nat} (h : x ∈ l.zipIdx) : x.2 < l.length := by
  obtain ⟨a, i⟩ := x
  have := List.mem_zipIdx h
  simp at this ⊢
  omega
set_option maxHeartbeats 8000000 in
theorem pure01 (ad : Ad) (sa : Addr) (si : List Int) : B_law ad sa si (fun f _ => f = .ret (.bool true)) noE ⟨bindLoc [("script", .raw (.ref sa))] fun _ => none, fun _ => none⟩ := by
  unfold B_law
  refine ⟨rfl, fun d hd => ?_⟩
  refine items_go (by exact upd_same) ?_
  intro D hD
  have dD : d ≠ D := by rintro rfl; simp [LS.put] at hD
  refine comp_go (f := fun n => LV.int n) (xs := si.take 12) (fun _ => true) (fun i => .int (i.fmod (10 ^ (6 : Int).toNat))) (by have := List.length_take_le 12 si; unfold cap; omega) (fun ℓ' acc => by exact upd_ne dD upd_same) (fun o ho acc ℓ' hℓ => ?_) ?_
  · refine ⟨fun y => if y = "cell" then some (.int o) else ℓ' y, fun y hy => ?_, fun K h => h, fun K h => h, fun hc K h => ?_⟩
    · by_cases z : y = "cell"
      · subst z; simp at hy
      · simp only [if_neg z]; exact hℓ y hy
    · repeat trivial
  rw [filter_tt]
  have e1 : ((si.take 12).map fun i => LV.int (i.fmod (10 ^ (6 : Int).toNat))) = ((si.take 12).map fun i => i.fmod (10 ^ (6 : Int).toNat)).map .int := by rw [List.map_map]; rfl
  rw [e1]
  have hcl : ((si.take 12).map fun i => i.fmod (10 ^ (6 : Int).toNat)).length ≤ 12 := by
    rw [List.length_map]; exact List.length_take_le 12 si
  generalize ((si.take 12).map fun i => i.fmod (10 ^ (6 : Int).toNat)) = cs at hcl
  generalize hτ1 : upd _ D (LO.list (cs.map .int)) = τ1
  have hD1 : τ1 D = some (.list (cs.map .int)) := by rw [← hτ1]; exact upd_same
  clear hτ1 hD dD hd e1
  repeat trivial
  intro D2 hD2
  have hD2' : τ1 D2 = none := hD2
  have hne2 : D ≠ D2 := ne_sn hD1 hD2'
  rw [List.zipIdx_map, List.map_map]
  refine comp_go (f := fun vi : Int × Nat => LV.tup [.int vi.2, .int vi.1]) (fun _ => true) (fun vi => .int (vi.1 * ((vi.2 : Int) + 1))) (by rw [List.length_zipIdx]; unfold cap; omega) (fun ℓ' acc => by exact upd_ne hne2 hD1) (fun o ho acc ℓ' hℓ => ?_) ?_
  · have ho' := zip_lt ho
    refine ⟨(LS.set (LS.set ⟨ℓ', τ1⟩ "place" (.int o.2)) "cell" (.int o.1)).loc, fun y hy => ?_, fun K h => ⟨⟨_, rfl, rfl⟩, h⟩, fun K h => h, fun hc K h => ?_⟩
    · show (if y = "cell" then _ else if y = "place" then _ else ℓ' y) = _
      by_cases z : y = "cell"
      · subst z; simp at hy
      · by_cases z2 : y = "place"
        · subst z2; simp at hy
        · simp only [if_neg z, if_neg z2]; exact hℓ y hy
    · repeat trivial
      refine mul_go (by omega) ?_
      exact h
  rw [filter_tt]
  have e2 : (cs.zipIdx.map fun vi => LV.int (vi.1 * ((vi.2 : Int) + 1))) = (cs.zipIdx.map fun vi => vi.1 * ((vi.2 : Int) + 1)).map .int := by rw [List.map_map]; rfl
  rw [e2]
  generalize (cs.zipIdx.map fun vi => vi.1 * ((vi.2 : Int) + 1)) = qs
  refine sum_go (by exact upd_same) ?_
  generalize hc : (17686 : Int) + qs.sum = c
  generalize hτ2 : upd _ D2 (LO.list (qs.map .int)) = τ2
  have hD2 : τ2 D = some (.list (cs.map .int)) := by rw [← hτ2]; exact upd_ne hne2 hD1
  clear hτ2 hD1 hD2' hne2 e2
  refine add_go ?_
  rw [hc]
  clear hc
  trivial
  refine ritems_go (n := 5) (by decide) ?_
  intro D3 hD3
  have hD3' : τ2 D3 = none := hD3
  have hne3 : D ≠ D3 := ne_sn hD2 hD3'
  refine comp_go (f := fun i : Nat => LV.int (i : Int)) (fun _ => true) (fun i => .int ((cs.sum + (1 + c.fmod 4) * (i : Int)).fmod 5)) (by decide) (fun ℓ' acc => True.intro) (fun o ho acc ℓ' hℓ => ?_) ?_
  · have ho' : o < 5 := by simpa using ho
    refine ⟨fun y => if y = "place" then some (.int o) else ℓ' y, fun y hy => ?_, fun K h => h, fun K h => h, fun hc K h => ?_⟩
    · by_cases z : y = "place"
      · subst z; simp at hy
      · simp only [if_neg z]; exact hℓ y hy
    · repeat trivial
      refine mul_go (by omega) ?_
      repeat trivial
  rw [filter_tt]
  have hinj := hidden_inj cs.sum c
  have hrng := fun i => hidden_rng cs.sum c i
  generalize hf : (fun i : Nat => (cs.sum + (1 + c.fmod 4) * (i : Int)).fmod 5) = f
  have hfi : ∀ i, f i = (cs.sum + (1 + c.fmod 4) * (i : Int)).fmod 5 := fun i => by rw [← hf]
  simp only [← hfi] at hinj hrng ⊢
  clear hf hfi
  generalize hτ3 : upd _ D3 (LO.list ((List.range 5).map fun i => LV.int (f i))) = τ3
  have h3 : τ3 D3 = some (.list ((List.range 5).map fun i => LV.int (f i))) := by rw [← hτ3]; exact upd_same
  clear hτ3 hD2 hD3 hD3' hne3
  trivial
  refine ritems_go (n := 5) (by decide) ?_
  intro D4 hD4
  refine C_pairs (h := D3) (f := f) hD4 rfl h3 ?_
  have hb : ∀ q ∈ idx10, q.1 < q.2 ∧ q.2 < 5 := by decide
  have hl10 : (idx10.map fun q => (f q.1, f q.2)).length = 10 := rfl
  have hsub := @steps_of f hinj (fun i _ => hrng i)
  generalize (idx10.map fun q => (f q.1, f q.2)) = ps at hl10 hsub
  generalize hτ4 : upd _ D4 (LO.list (ps.map tp)) = τ4
  have h4 : τ4 D4 = some (.list (ps.map tp)) := by rw [← hτ4]; exact upd_same
  clear hτ4 h3 hD4
  repeat trivial
  intro D5 hD5
  have hD5' : τ4 D5 = none := hD5
  have hne5 : D4 ≠ D5 := ne_sn h4 hD5'
  rw [List.zipIdx_map, List.map_map]
  refine comp_go (f := fun vi : Pr × Nat => LV.tup [.int vi.2, tp vi.1]) (fun vi => (c.fdiv (2 ^ (vi.2 : Int).toNat)).fmod 2 != 0) (fun vi => tp vi.1) (by rw [List.length_zipIdx]; unfold cap; omega) (fun ℓ' acc => by exact upd_ne hne5 h4) (fun o ho acc ℓ' hℓ => ?_) ?_
  · have ho' := zip_lt ho
    obtain ⟨p1, p2⟩ := pow2 (n := o.2) (by omega)
    refine ⟨(LS.set (LS.set ⟨ℓ', τ4⟩ "place" (.int o.2)) "pair" (tp o.1)).loc, fun y hy => ?_, fun K h => ⟨⟨_, rfl, rfl⟩, h⟩, fun K h => ?_, fun hc K h => ?_⟩
    · show (if y = "pair" then _ else if y = "place" then _ else ℓ' y) = _
      by_cases z : y = "pair"
      · subst z; simp at hy
      · by_cases z2 : y = "place"
        · subst z2; simp at hy
        · simp only [if_neg z, if_neg z2]; exact hℓ y hy
    · repeat trivial
    · repeat trivial
  have e5 : ((ps.zipIdx.filter fun vi => (c.fdiv (2 ^ (vi.2 : Int).toNat)).fmod 2 != 0).map fun vi => tp vi.1) = ((ps.zipIdx.filter fun vi => (c.fdiv (2 ^ (vi.2 : Int).toNat)).fmod 2 != 0).map (·.1)).map tp := by rw [List.map_map]; rfl
  rw [e5]
  have hst := hsub (zip_sub (p := fun vi => (c.fdiv (2 ^ (vi.2 : Int).toNat)).fmod 2 != 0) ps 0)
  have hsl := (zip_sub (p := fun vi => (c.fdiv (2 ^ (vi.2 : Int).toNat)).fmod 2 != 0) ps 0).length_le
  generalize ((ps.zipIdx.filter fun vi => (c.fdiv (2 ^ (vi.2 : Int).toNat)).fmod 2 != 0).map (·.1)) = st at hst hsl
  generalize hτ5 : upd _ D5 (LO.list (st.map tp)) = τ5
  have h5 : τ5 D5 = some (.list (st.map tp)) := by rw [← hτ5]; exact upd_same
  clear hτ5 h4 hD5 hD5' hne5 e5
  trivial
  refine ritems5_go ?_
  intro g hgn
  refine C_graph hgn (T := "second") (V := "first") (selT := fun p => p.2) (selV := fun p => p.1) (st := st) (sp := D5) (fun _ _ _ => rfl) (fun _ _ _ => rfl) rfl (by exact h5) (by omega) ?_
  intro τ6 hE6 hg
  trivial
  refine ritems5_go ?_
  intro g' hgn'
  refine C_graph hgn' (T := "first") (V := "second") (selT := fun p => p.1) (selV := fun p => p.2) (st := st) (sp := D5) (fun _ _ _ => rfl) (fun _ _ _ => rfl) rfl (by exact hE6 _ _ h5) (by omega) ?_
  intro τ7 hE7 hg'
  exact law_tail hst (c := c) (g := g) (g' := g') rfl rfl rfl (by exact hg.ext hE7) (by exact hg')
end
end Mine
end
theorem PySem.Challenge.cw_nq0219_01_holds : PySem.Challenge.rw_nq0219_01.Holds :=
  Mine.hold1 Mine.pure01
