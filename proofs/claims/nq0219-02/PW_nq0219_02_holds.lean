import PyProof.Rows.All
import Wide.All
import OpenK.AllK
import Wide.FinOn
import KE.KNestM
import Lean
import PySem.Challenge.RW_nq0219_02
set_option Elab.async false
noncomputable section
open PySem PySem.W PyProof.Rows PySem.Calls
set_option Elab.async false
namespace Mine

/-- lite values -/
inductive LV where
  | none | bool (b : Bool) | int (i : Int) | ref (a : Nat) | tup (vs : List LV) | raw (v : Value) | nxt (it : Nat) | rng (a b c : Int)

/-- lite objects -/
inductive LO where
  | list (xs : List LV)
  | dict (es : List (Int × LV)) (ep : Nat)
  | set (S : Int → Bool) (n : Nat)
  | iter (l : Nat) (i : Nat)
  | inst (C : Nat) (d : Nat) (fs : List (Option LV))
  | attrs (fs : List (String × LV))

structure LS where
  loc : String → Option LV
  heap : Nat → Option LO


def LS.put (σ : LS) (a : Nat) (o : LO) : LS := { σ with heap := fun b => if b = a then some o else σ.heap b }
def LS.set (σ : LS) (x : String) (v : LV) : LS := { σ with loc := fun y => if y = x then some v else σ.loc y }

abbrev tupObj (items : List Value) (n : Nat) : Obj := { cls := .type "tuple", data := .seq items.toArray n }
abbrev mwObj (it : Nat) : Obj := { cls := .type "method-wrapper", data := .fields #[.builtin "list_iterator.__next__", .ref it] }

mutual
inductive VRel (h : Heap) : LV → Value → Prop where
  | none : VRel h .none .none
  | bool (b : Bool) : VRel h (.bool b) (.bool b)
  | int (i : Int) (t : Tok) : VRel h (.int i) (.int i t)
  | ref (a : Nat) : VRel h (.ref a) (.ref a)
  | raw (v : Value) : VRel h (.raw v) v
  | tup {t : Nat} {vs : List LV} {items : List Value} {n : Nat} : h.get? t = some (tupObj items n) → VRels h vs items → VRel h (.tup vs) (.ref t)
  | nxt {it q : Nat} : h.get? q = some (mwObj it) → VRel h (.nxt it) (.ref q)
  | rng {r : Nat} {a b c : Int} {t u v : Tok} : h.get? r = some { cls := .type "range", data := .fields #[.int a t, .int b u, .int c v] } → VRel h (.rng a b c) (.ref r)
inductive VRels (h : Heap) : List LV → List Value → Prop where
  | nil : VRels h [] []
  | cons {a : LV} {v : Value} {as : List LV} {vs : List Value} : VRel h a v → VRels h as vs → VRels h (a :: as) (v :: vs)
end

/-- objects that never change once made: tuples, bound next's -/
def immObj (o : Obj) : Bool := match o.data with
  | .seq _ _ => o.cls == .type "tuple"
  | .fields _ => o.cls == .type "method-wrapper" || o.cls == .type "range"
  | _ => false
def Imm (h h' : Heap) : Prop := ∀ b o, h.get? b = some o → immObj o = true → h'.get? b = some o
theorem Imm.refl (h : Heap) : Imm h h := fun _ _ e _ => e
theorem Imm.trans {h₁ h₂ h₃ : Heap} (x : Imm h₁ h₂) (y : Imm h₂ h₃) : Imm h₁ h₃ := fun b o e i => y b o (x b o e i) i
theorem Imm.of_keeps {h h' : Heap} (k : ∀ b o, h.get? b = some o → h'.get? b = some o) : Imm h h' := fun b o e _ => k b o e
theorem Imm.of_extBut {h h' : Heap} {a : Addr} (k : Heap.ExtBut a h h') (n : ∀ o, h.get? a = some o → immObj o = false) : Imm h h' := fun b o e i => by
  by_cases q : b = a
  · subst q; rw [n o e] at i; cases i
  · exact k b o q e

theorem VRel.imm {h h' : Heap} (k : Imm h h') {a : LV} {v : Value} (x : VRel h a v) : VRel h' a v :=
  VRel.rec (motive_1 := fun a v _ => VRel h' a v) (motive_2 := fun a v _ => VRels h' a v) .none .bool .int .ref .raw (fun e _ ih => .tup (k _ _ e rfl) ih) (fun e => .nxt (k _ _ e rfl)) (fun e => .rng (k _ _ e rfl)) .nil (fun _ _ x r => .cons x r) x
theorem VRels.imm {h h' : Heap} (k : Imm h h') {a : List LV} {v : List Value} (x : VRels h a v) : VRels h' a v :=
  VRels.rec (motive_1 := fun a v _ => VRel h' a v) (motive_2 := fun a v _ => VRels h' a v) .none .bool .int .ref .raw (fun e _ ih => .tup (k _ _ e rfl) ih) (fun e => .nxt (k _ _ e rfl)) (fun e => .rng (k _ _ e rfl)) .nil (fun _ _ x r => .cons x r) x

theorem VRels.nil_inv {h : Heap} {xs : List Value} (r : VRels h [] xs) : xs = [] := by cases r; rfl
theorem VRels.cons_inv {h : Heap} {a : LV} {as : List LV} {xs : List Value} (r : VRels h (a :: as) xs) : ∃ v vs, xs = v :: vs ∧ VRel h a v ∧ VRels h as vs := by
  cases r with
  | cons x r => exact ⟨_, _, rfl, x, r⟩
/-- induction along the list -/
theorem VRels.ind {h : Heap} {P : List LV → List Value → Prop} (h0 : P [] []) (h1 : ∀ a as v vs, VRel h a v → VRels h as vs → P as vs → P (a :: as) (v :: vs)) {as : List LV} {vs : List Value} (r : VRels h as vs) : P as vs := by
  induction as generalizing vs with
  | nil => cases r.nil_inv; exact h0
  | cons a as ih => obtain ⟨v, ws, rfl, x, r⟩ := r.cons_inv; exact h1 a as v ws x r (ih r)
theorem VRels.length {h : Heap} {as : List LV} {vs : List Value} (r : VRels h as vs) : as.length = vs.length :=
  r.ind (P := fun as vs => as.length = vs.length) rfl fun _ _ _ _ _ _ ih => congrArg (· + 1) ih
theorem VRels.get {h : Heap} {as : List LV} {vs : List Value} (r : VRels h as vs) : ∀ {i : Nat} {a : LV}, as[i]? = some a → ∃ v, vs[i]? = some v ∧ VRel h a v :=
  r.ind (P := fun as vs => ∀ {i : Nat} {a : LV}, as[i]? = some a → ∃ v, vs[i]? = some v ∧ VRel h a v) (fun e => nomatch e) fun b _ v _ x _ ih i a e => by
    cases i with
    | zero => cases e; exact ⟨v, rfl, x⟩
    | succ i => exact ih e
theorem VRels.append {h : Heap} {as bs : List LV} {vs ws : List Value} (r : VRels h as vs) (q : VRels h bs ws) : VRels h (as ++ bs) (vs ++ ws) :=
  r.ind (P := fun as vs => VRels h (as ++ bs) (vs ++ ws)) q fun _ _ _ _ x _ ih => .cons x ih
theorem VRels.one {h : Heap} {a : LV} {v : Value} (x : VRel h a v) : VRels h [a] [v] := .cons x .nil
theorem VRels.take {h : Heap} {as : List LV} {vs : List Value} (n : Nat) (r : VRels h as vs) : VRels h (as.take n) (vs.take n) :=
  r.ind (P := fun as vs => ∀ n, VRels h (as.take n) (vs.take n)) (fun n => by cases n <;> exact .nil) (fun _ _ _ _ x _ ih n => by
    cases n with
    | zero => exact .nil
    | succ n => exact .cons x (ih n)) n
theorem VRels.drop {h : Heap} {as : List LV} {vs : List Value} (n : Nat) (r : VRels h as vs) : VRels h (as.drop n) (vs.drop n) :=
  r.ind (P := fun as vs => ∀ n, VRels h (as.drop n) (vs.drop n)) (fun n => by cases n <;> exact .nil) (fun _ _ _ _ x r ih n => by
    cases n with
    | zero => exact .cons x r
    | succ n => exact ih n) n
theorem VRels.set {h : Heap} {as : List LV} {vs : List Value} (i : Nat) {a : LV} {v : Value} (r : VRels h as vs) (y : VRel h a v) : VRels h (as.set i a) (vs.set i v) :=
  r.ind (P := fun as vs => ∀ i, VRels h (as.set i a) (vs.set i v)) (fun i => by cases i <;> exact .nil) (fun _ _ _ _ x r ih i => by
    cases i with
    | zero => exact .cons y r
    | succ i => exact .cons x (ih i)) i

def OV (h : Heap) : Option LV → Option Value → Prop
  | none, none => True
  | some a, some v => VRel h a v
  | _, _ => False
theorem OV.imm {h h' : Heap} (k : Imm h h') {a : Option LV} {v : Option Value} (x : OV h a v) : OV h' a v := by
  cases a <;> cases v <;> first | exact x | exact VRel.imm k x
theorem OV.some_left {h : Heap} {a : LV} {v : Option Value} (x : OV h (some a) v) : ∃ y, v = some y ∧ VRel h a y := by
  cases v with
  | none => exact x.elim
  | some y => exact ⟨y, rfl, x⟩

/-- no list of the lite heap is longer than this -/
def cap : Nat := 100000
theorem cap_le : cap ≤ sizeLine := by decide

inductive ERel (h : Heap) : List (Int × LV) → List (Int × Value) → Prop
  | nil : ERel h [] []
  | cons {k : Int} {a : LV} {v : Value} {es : List (Int × LV)} {kvs : List (Int × Value)} : VRel h a v → ERel h es kvs → ERel h ((k, a) :: es) ((k, v) :: kvs)
inductive FRel (P : Params) (h : Heap) : List (String × LV) → List DictEntry → Prop
  | nil : FRel P h [] []
  | cons {k : String} {t : Tok} {a : LV} {v : Value} {fs : List (String × LV)} {es : List DictEntry} : VRel h a v → FRel P h fs es → FRel P h ((k, a) :: fs) (⟨PyData.keyHash P (Str.ofString k), .str (Str.ofString k) t, v⟩ :: es)
inductive OVs (h : Heap) : List (Option LV) → List (Option Value) → Prop
  | nil : OVs h [] []
  | cons {a : Option LV} {v : Option Value} {as : List (Option LV)} {vs : List (Option Value)} : OV h a v → OVs h as vs → OVs h (a :: as) (v :: vs)
theorem ERel.imm {h h' : Heap} (k : Imm h h') {a v} (r : ERel h a v) : ERel h' a v := by
  induction r with
  | nil => exact .nil
  | cons x _ ih => exact .cons (x.imm k) ih
theorem FRel.imm {P : Params} {h h' : Heap} (k : Imm h h') {a v} (r : FRel P h a v) : FRel P h' a v := by
  induction r with
  | nil => exact .nil
  | cons x _ ih => exact .cons (x.imm k) ih
theorem OVs.imm {h h' : Heap} (k : Imm h h') {a v} (r : OVs h a v) : OVs h' a v := by
  induction r with
  | nil => exact .nil
  | cons x _ ih => exact .cons (x.imm k) ih

def ORel (prog : Program) (w : World) (h : Heap) (a : Addr) : LO → Prop
  | .list xs => xs.length ≤ cap ∧ ∃ items n, IsL h a items n ∧ VRels h xs items.toList
  | .dict es ep => es.length ≤ cap ∧ ∃ kvs, h.DictAt (intKind prog w) a kvs ep ∧ ERel h es kvs
  | .set S n => n ≤ cap ∧ h.SetOf (intKind prog w) a S n
  | .iter l i => h.get? a = some { cls := .type "list_iterator", data := .fields #[.ref l, .int i 0] }
  | .inst C d fs => ∃ sl, h.get? a = some { cls := .ref C, dict := some d, data := .plain, slots := sl } ∧ OVs h fs sl.toList
  | .attrs fs => ∃ es n, h.get? a = some (dictOf es n) ∧ FRel w.params h fs es

/-- what stands at a lite address is no tuple and no bound next -/
theorem ORel.notImm {prog : Program} {w : World} {h : Heap} {a : Addr} {o : LO} (r : ORel prog w h a o) : ∃ ob, h.get? a = some ob ∧ immObj ob = false := by
  cases o with
  | list xs => obtain ⟨_, items, n, e, _⟩ := r; exact ⟨_, e, rfl⟩
  | dict es ep =>
    obtain ⟨_, kvs, e, _⟩ := r
    obtain ⟨ob, es', e1, e2, e3, _⟩ := e
    exact ⟨ob, e1, by rw [immObj, e3]⟩
  | set S n =>
    obtain ⟨_, ob, es, ep, t, e1, e2, e3, _⟩ := r
    exact ⟨ob, e1, by rw [immObj, e3]⟩
  | iter l i => exact ⟨_, r, rfl⟩
  | inst C d fs => obtain ⟨sl, e, _⟩ := r; exact ⟨_, e, rfl⟩
  | attrs fs => obtain ⟨es, n, e, _⟩ := r; exact ⟨_, e, rfl⟩

/-- a lite object stands on where its own real object and the immutable ones stand on -/
theorem ORel.move {prog : Program} {w : World} {h h' : Heap} {a : Addr} {o : LO} (r : ORel prog w h a o) (k : Imm h h') (e : ∀ ob, h.get? a = some ob → h'.get? a = some ob) : ORel prog w h' a o := by
  cases o with
  | list xs => obtain ⟨hl, items, n, e1, e2⟩ := r; exact ⟨hl, items, n, e _ e1, e2.imm k⟩
  | dict es ep =>
    obtain ⟨hl, kvs, ⟨ob, es', e1, e2⟩, e3⟩ := r
    exact ⟨hl, kvs, ⟨ob, es', e _ e1, e2⟩, e3.imm k⟩
  | set S n =>
    obtain ⟨hl, ob, es, ep, t, e1, e2⟩ := r
    exact ⟨hl, ob, es, ep, t, e _ e1, e2⟩
  | iter l i => exact e _ r
  | inst C d fs => obtain ⟨sl, e1, e2⟩ := r; exact ⟨sl, e _ e1, e2.imm k⟩
  | attrs fs => obtain ⟨es, n, e1, e2⟩ := r; exact ⟨es, n, e _ e1, e2.imm k⟩

/-- iterators whose whole object the library's rules ask for -/
def exactO (o : Obj) : Bool := match o.data with
  | .fields _ => o.cls == .type "range_iterator" || o.cls == .type "dict_itemiterator" || o.cls == .type "enumerate" || o.cls == .type "method"
  | _ => false

structure Cx where
  base : Heap
  G : List (Addr × Obj)
  gens : Array GenState
  os : OsState
  drawn : Drawn

structure Rel (prog : Program) (w : World) (c : Cx) (env : Env) (σ : LS) (s : Shared) : Prop where
  keep : ∀ b o, c.base.get? b = some o → s.heap.get? b = some o
  guard : ∀ p ∈ c.G, ∃ o, s.heap.get? p.1 = some o ∧ o.cls = p.2.cls ∧ o.data = p.2.data ∧ (exactO p.2 = true → o = p.2)
  ns : ∃ m, s.heap.Ns env.locals m ∧ ∀ x : String, env.kindOf (Str.ofString x) = some .local → OV s.heap (σ.loc x) (m (Str.ofString x))
  cell : ∀ (x : String), (env.kindOf (Str.ofString x) = some .cell ∨ env.kindOf (Str.ofString x) = some .free) → ∃ a v, env.cells.lookup (Str.ofString x) = some a ∧ s.heap.IsCell a v ∧ OV s.heap (σ.loc x) v
  cin : ∀ y ∈ env.cells, ∃ v, s.heap.IsCell y.2 v
  obj : ∀ a o, σ.heap a = some o → ORel prog w s.heap a o
  dom : ∀ a o, σ.heap a = some o → c.base.get? a = none ∧ a ≠ env.locals ∧ (∀ p ∈ c.G, p.1 ≠ a) ∧ (∀ y ∈ env.cells, y.2 ≠ a)
  gens : s.gens = c.gens
  os : s.os = c.os
  drawn : s.drawn = c.drawn

structure Sep (c : Cx) (env : Env) : Prop where
  above : c.base.objs.size ≤ env.locals
  gL : ∀ p ∈ c.G, p.1 ≠ env.locals
  cellL : ∀ y ∈ env.cells, y.2 ≠ env.locals
  cellB : ∀ y ∈ env.cells, c.base.get? y.2 = none
  cellU : ∀ y ∈ env.cells, ∀ y' ∈ env.cells, y.2 = y'.2 → y.1 = y'.1
  gOwn : ∀ p ∈ c.G, ∀ y ∈ env.cells, env.locals < y.2 → p.1 ≠ y.2
  kind : env.scope.kind = .function
  glob : env.globals = mainGlobals
  bui : env.builtins = builtinsNs

end Mine
end
noncomputable section
open PySem PySem.W PyProof.Rows PySem.Calls
set_option Elab.async false
namespace Mine

structure LX where
  name : String
  ctx : Bool

abbrev PTx (α : Type) := (α → LS → Prop) → (LX → LS → Prop) → LS → Prop

/-- what the walk knows of the text's top: the global names, the objects that are written out -/
structure TopS where
  gl : String → Option Value
  K : Frag
  hnd : Bool
  scr : Option (Addr × List Int)
structure TopF (TS : TopS) (h : Heap) : Prop where
  nolimit : h.NoLimit
  globs : ∃ mg mb, h.Ns mainGlobals mg ∧ h.Ns builtinsNs mb ∧ ∀ x v, TS.gl x = some v → mg (Str.ofString x) = some v ∨ (mg (Str.ofString x) = none ∧ mb (Str.ofString x) = some v)
  kin : TS.K.In h
  sysm : ∃ o, h.get? sysModules = some o
  scr : ∀ a is, TS.scr = some (a, is) → ∃ items, h.IsList a items ∧ IntsAre items.toList is ∧ items.size ≤ sizeLine

structure WF (TS : TopS) (n : Nat) (c : Cx) (A : Around) (env : Env) : Prop where
  sep : Sep c env
  room : A.depth + n < recursionLimit
  units : A.units + 64 * n < cLine
  top : TopF TS c.base
  frl : ∀ L, env.frame = some L → L ≤ env.locals
  hand : TS.hnd = true → ∀ e0, A.handled = some (.ref e0) → ∃ o vs, (e0, o) ∈ c.G ∧ o.data = .fields vs ∧ vs[2]? = some .none
  fr : env.frame = some env.locals → ∃ outer, A.frames = some (env :: outer) ∧ ∀ e ∈ outer, e.scope.kind ≠ .module ∧ ∃ L o, e.frame = some L ∧ (L, o) ∈ c.G ∧ c.base.get? L = none ∧ ∃ es ep, o.data = .dict es ep

/-- an address that nothing of the lite state's stands at -/
def Off (c : Cx) (σ : LS) (a : Addr) : Prop := c.base.get? a = none ∧ σ.heap a = none ∧ ∀ p ∈ c.G, p.1 ≠ a
structure ExcOb (c : Cx) (σ : LS) (h : Heap) (x : LX) (ea : Addr) (oe : Obj) (vs : Array Value) : Prop where
  at_ : h.get? ea = some oe
  cls : oe.cls = .type x.name
  name : x.name = "IndexError" ∨ x.name = "StopIteration"
  data : oe.data = .fields vs
  off : Off c σ ea
  size : 2 < vs.size
  ctx : x.ctx = false → vs[2]? = some .none
structure TbOb (c : Cx) (σ : LS) (h : Heap) (fl : Value) (T : Addr) (oT : Obj) (ts : Array Value) : Prop where
  at_ : h.get? T = some oT
  cls : oT.cls = .type "traceback"
  data : oT.data = .fields ts
  fl : ts[3]? = some fl
  off : Off c σ T
/-- an exception on its way, inside the frame of env -/
def ExcAt (c : Cx) (env : Env) (σ : LS) (h : Heap) (x : LX) (e : Value) : Prop :=
  ∃ ea oe vs, e = .ref ea ∧ ExcOb c σ h x ea oe vs ∧ (vs[1]? = some .none ∨ ∃ T oT ts, vs[1]? = some (.ref T) ∧ TbOb c σ h (rawInt env.locals) T oT ts)
/-- an exception that is noted in a frame, its flight being fl -/
def ExcTb (c : Cx) (σ : LS) (h : Heap) (x : LX) (e : Value) (fl : Value) : Prop :=
  ∃ ea oe vs T oT ts, e = .ref ea ∧ ExcOb c σ h x ea oe vs ∧ vs[1]? = some (.ref T) ∧ TbOb c σ h fl T oT ts
theorem ExcTb.at {c : Cx} {env : Env} {σ : LS} {h : Heap} {x : LX} {e : Value} (y : ExcTb c σ h x e (rawInt env.locals)) : ExcAt c env σ h x e :=
  by obtain ⟨ea, oe, vs, T, oT, ts, a, b, d, f⟩ := y; exact ⟨ea, oe, vs, a, b, .inr ⟨T, oT, ts, d, f⟩⟩

section
variable (prog : Program) (w : World) (TS : TopS)

def Post {α β : Type} (c : Cx) (env : Env) (R : Heap → β → α → Prop) (h0 : Heap) (Q : β → LS → Prop) : α → Shared → Prop :=
  fun v s' => ∃ lv σ', R s'.heap lv v ∧ Rel prog w c env σ' s' ∧ Imm h0 s'.heap ∧ Q lv σ'
def EPost (c : Cx) (env : Env) (h0 : Heap) (E : LX → LS → Prop) : Value → Shared → Prop :=
  fun e s' => ∃ x σ', ExcAt c env σ' s'.heap x e ∧ Rel prog w c env σ' s' ∧ Imm h0 s'.heap ∧ E x σ'

def At {α β : Type} (c : Cx) (A : Around) (env : Env) (t : Sem α) (R : Heap → β → α → Prop) (m : PTx β) (σ : LS) (s : Shared) : Prop :=
  ∀ Q E, m Q E σ → wpAny (model prog w) A t (Post prog w c env R s.heap Q) (EPost prog w c env s.heap E) s

/-- a tree refines a transformer -/
def Sim {α β : Type} (n : Nat) (A : Around) (env : Env) (t : Sem α) (R : Heap → β → α → Prop) (m : PTx β) : Prop :=
  ∀ c σ s, WF TS n c A env → Rel prog w c env σ s → At prog w c A env t R m σ s
def Sim1 {α β : Type} (n : Nat) (A : Around) (env : Env) (f : Value → Sem α) (R : Heap → β → α → Prop) (m : LV → PTx β) : Prop :=
  ∀ c σ s a x, WF TS n c A env → Rel prog w c env σ s → VRel s.heap a x → At prog w c A env (f x) R (m a) σ s
def Sim2 {α β : Type} (n : Nat) (A : Around) (env : Env) (f : Value → Value → Sem α) (R : Heap → β → α → Prop) (m : LV → LV → PTx β) : Prop :=
  ∀ c σ s a x b y, WF TS n c A env → Rel prog w c env σ s → VRel s.heap a x → VRel s.heap b y → At prog w c A env (f x y) R (m a b) σ s
def SimL {α β : Type} (n : Nat) (A : Around) (env : Env) (f : List Value → Sem α) (R : Heap → β → α → Prop) (m : List LV → PTx β) : Prop :=
  ∀ c σ s as xs, WF TS n c A env → Rel prog w c env σ s → VRels s.heap as xs → At prog w c A env (f xs) R (m as) σ s
end

/-- plain results: bools, units -/
def REq {α : Type} (_ : Heap) (a b : α) : Prop := a = b

inductive LF where
  | next | brk | cont | ret (v : LV)
inductive FlRel (h : Heap) : LF → Flow → Prop
  | next : FlRel h .next .next
  | brk : FlRel h .brk .brk
  | cont : FlRel h .cont .cont
  | ret {a : LV} {v : Value} : VRel h a v → FlRel h (.ret a) (.ret v)

abbrev pret {α : Type} (a : α) : PTx α := fun Q _ σ => Q a σ
abbrev pbind {α β : Type} (m : PTx α) (f : α → PTx β) : PTx β := fun Q E σ => m (fun a σ' => f a Q E σ') E σ
abbrev pfail {α : Type} : PTx α := fun _ _ _ => False

section
variable {prog : Program} {w : World} {TS : TopS} {c : Cx} {A : Around} {env : Env} {σ : LS} {s : Shared} {n : Nat}

theorem Post.imm {α β : Type} {R : Heap → β → α → Prop} {h0 h1 : Heap} {Q : β → LS → Prop} {v : α} {s' : Shared} (k : Imm h0 h1) (p : Post prog w c env R h1 Q v s') : Post prog w c env R h0 Q v s' := by
  obtain ⟨lv, σ', a, b, d, e⟩ := p; exact ⟨lv, σ', a, b, k.trans d, e⟩
theorem EPost.imm {h0 h1 : Heap} {E : LX → LS → Prop} {v : Value} {s' : Shared} (k : Imm h0 h1) (p : EPost prog w c env h1 E v s') : EPost prog w c env h0 E v s' := by
  obtain ⟨lv, σ', a, b, d, e⟩ := p; exact ⟨lv, σ', a, b, k.trans d, e⟩




theorem Rel.toks (h : Rel prog w c env σ s) (tk : Nat) : Rel prog w c env σ { s with toks := tk } := ⟨h.keep, h.guard, h.ns, h.cell, h.cin, h.obj, h.dom, h.gens, h.os, h.drawn⟩

/-- where only what no fact names is changed, all stands on -/
theorem Rel.keeps (h : Rel prog w c env σ s) {h' : Heap} {tk : Nat} (k : ∀ b o, s.heap.get? b = some o → h'.get? b = some o) : Rel prog w c env σ { s with heap := h', toks := tk } := by
  have im := Imm.of_keeps k
  obtain ⟨m, n1, n2⟩ := h.ns
  exact ⟨fun b o e => k b o (h.keep b o e), fun p hp => (h.guard p hp).imp fun _ e => ⟨k _ _ e.1, e.2⟩, ⟨m, n1.keeps k, fun x q => (n2 x q).imm im⟩,
    fun x q => by obtain ⟨a, v, e1, e2, e3⟩ := h.cell x q; exact ⟨a, v, e1, e2.keeps k, e3.imm im⟩,
    fun y hy => (h.cin y hy).imp fun v e => e.keeps k,
    fun a o e => (h.obj a o e).move im fun ob eb => k _ _ eb, h.dom, h.gens, h.os, h.drawn⟩

/-- an object of no one's turned: the address a is none that Rel speaks of -/
theorem Rel.extBut (h : Rel prog w c env σ s) {h' : Heap} {tk : Nat} {a : Addr} (k : Heap.ExtBut a s.heap h') (ni : ∀ o, s.heap.get? a = some o → immObj o = false)
    (hb : c.base.get? a = none) (hl : a ≠ env.locals) (hg : ∀ p ∈ c.G, p.1 ≠ a) (hc : ∀ y ∈ env.cells, y.2 ≠ a) (ho : σ.heap a = none) : Rel prog w c env σ { s with heap := h', toks := tk } := by
  have im := Imm.of_extBut k ni
  obtain ⟨m, n1, n2⟩ := h.ns
  refine ⟨fun b o e => k b o (fun q => by rw [q, hb] at e; cases e) (h.keep b o e), fun p hp => (h.guard p hp).imp fun _ e => ⟨k _ _ (hg p hp) e.1, e.2⟩, ⟨m, n1.extBut k (Ne.symm hl), fun x q => (n2 x q).imm im⟩,
    fun x q => ?_, fun y hy => (h.cin y hy).imp fun v ⟨oc, c1, c2⟩ => ⟨oc, k _ oc (hc y hy) c1, c2⟩,
    fun b o e => (h.obj b o e).move im fun ob eb => k _ _ (fun q => by rw [q, ho] at e; cases e) eb, h.dom, h.gens, h.os, h.drawn⟩
  obtain ⟨b, v, e1, ⟨oc, c1, c2⟩, e3⟩ := h.cell x q
  exact ⟨b, v, e1, ⟨oc, k b oc (hc (_, b) (mem_of_lookup e1)) c1, c2⟩, e3.imm im⟩

/-- a lite object turned -/
theorem Rel.update (h : Rel prog w c env σ s) {h' : Heap} {tk : Nat} {a : Addr} {o o' : LO} (e : σ.heap a = some o) (k : Heap.ExtBut a s.heap h') (r : ORel prog w h' a o') : Rel prog w c env (σ.put a o') { s with heap := h', toks := tk } := by
  obtain ⟨d1, d2, d3, d4⟩ := h.dom a o e
  obtain ⟨ob, e1, e2⟩ := (h.obj a o e).notImm
  have im := Imm.of_extBut k (fun o q => by rw [e1] at q; cases q; exact e2)
  obtain ⟨m, n1, n2⟩ := h.ns
  refine ⟨fun b o e => k b o (fun q => by rw [q, d1] at e; cases e) (h.keep b o e), fun p hp => (h.guard p hp).imp fun _ e => ⟨k _ _ (d3 p hp) e.1, e.2⟩, ⟨m, n1.extBut k (Ne.symm d2), fun x q => (n2 x q).imm im⟩,
    fun x q => ?_, fun y hy => (h.cin y hy).imp fun v ⟨oc, c1, c2⟩ => ⟨oc, k _ oc (d4 y hy) c1, c2⟩, fun b o₂ e₂ => ?_, fun b o₂ e₂ => ?_, h.gens, h.os, h.drawn⟩
  · obtain ⟨b, v, e1, ⟨oc, c1, c2⟩, e3⟩ := h.cell x q
    exact ⟨b, v, e1, ⟨oc, k b oc (d4 (_, b) (mem_of_lookup e1)) c1, c2⟩, e3.imm im⟩
  · simp only [LS.put] at e₂
    by_cases q : b = a
    · subst q; simp at e₂; subst e₂; exact r
    · simp [q] at e₂; exact (h.obj b o₂ e₂).move im fun ob eb => k _ _ q eb
  · simp only [LS.put] at e₂
    by_cases q : b = a
    · subst q; exact ⟨d1, d2, d3, d4⟩
    · simp [q] at e₂; exact h.dom b o₂ e₂
theorem Rel.update_imm (h : Rel prog w c env σ s) {h' : Heap} {a : Addr} {o : LO} (e : σ.heap a = some o) (k : Heap.ExtBut a s.heap h') : Imm s.heap h' := by
  obtain ⟨ob, e1, e2⟩ := (h.obj a o e).notImm
  exact Imm.of_extBut k (fun o q => by rw [e1] at q; cases q; exact e2)

/-- the next address is none's -/
theorem Rel.fresh_base (h : Rel prog w c env σ s) : c.base.get? s.heap.objs.size = none := by
  cases q : c.base.get? s.heap.objs.size with
  | none => rfl
  | some o => exact absurd (Heap.lt_size (h.keep _ _ q)) (Nat.lt_irrefl _)
theorem Rel.fresh_obj (h : Rel prog w c env σ s) : σ.heap s.heap.objs.size = none := by
  cases q : σ.heap s.heap.objs.size with
  | none => rfl
  | some o => obtain ⟨ob, e, _⟩ := (h.obj _ o q).notImm; exact absurd (Heap.lt_size e) (Nat.lt_irrefl _)
theorem Rel.fresh_loc (h : Rel prog w c env σ s) : s.heap.objs.size ≠ env.locals := by
  obtain ⟨m, n1, _⟩ := h.ns
  exact Nat.ne_of_gt n1.lt
theorem Rel.fresh_G (h : Rel prog w c env σ s) : ∀ p ∈ c.G, p.1 ≠ s.heap.objs.size := fun p hp q => by
  obtain ⟨og, e, _⟩ := h.guard p hp
  rw [q] at e; exact absurd (Heap.lt_size e) (Nat.lt_irrefl _)

theorem Rel.fresh_cell (h : Rel prog w c env σ s) : ∀ y ∈ env.cells, y.2 ≠ s.heap.objs.size := fun y hy q => by
  obtain ⟨v, oc, e, _⟩ := h.cin y hy
  rw [q] at e; exact absurd (Heap.lt_size e) (Nat.lt_irrefl _)

/-- a new lite object -/
theorem Rel.alloc (h : Rel prog w c env σ s) {h' : Heap} {tk : Nat} {o : LO} (k : ∀ b o, s.heap.get? b = some o → h'.get? b = some o) (r : ORel prog w h' s.heap.objs.size o) :
    Rel prog w c env (σ.put s.heap.objs.size o) { s with heap := h', toks := tk } := by
  have q := h.keeps (tk := tk) k
  refine ⟨q.keep, q.guard, q.ns, q.cell, q.cin, fun b o₂ e₂ => ?_, fun b o₂ e₂ => ?_, h.gens, h.os, h.drawn⟩
  · simp only [LS.put] at e₂
    by_cases z : b = s.heap.objs.size
    · rw [if_pos z] at e₂; cases e₂; rw [z]; exact r
    · rw [if_neg z] at e₂; exact q.obj b o₂ e₂
  · simp only [LS.put] at e₂
    by_cases z : b = s.heap.objs.size
    · rw [z]; exact ⟨h.fresh_base, h.fresh_loc, h.fresh_G, h.fresh_cell⟩
    · rw [if_neg z] at e₂; exact h.dom b o₂ e₂
end
end Mine
end
noncomputable section
open PySem PySem.W PyProof.Rows PySem.Calls
set_option Elab.async false
namespace Mine

abbrev pget (x : String) : PTx LV := fun Q _ σ => ∃ v, σ.loc x = some v ∧ Q v σ
abbrev pset (x : String) (v : LV) : PTx Unit := fun Q _ σ => Q () (σ.set x v)

def nameOk (env : Env) (x : String) : Bool := match env.kindOf (Str.ofString x) with
  | some .local | some .cell | some .free => x != "__debug__" && x != "__classdict__"
  | _ => false
def StoreOk (env : Env) (x : String) : Prop := env.kindOf (Str.ofString x) = some .local ∨ (env.kindOf (Str.ofString x) = some .cell ∧ ∃ a, env.cells.lookup (Str.ofString x) = some a ∧ env.locals < a)

theorem ofString_inj {a b : String} : Str.ofString a = Str.ofString b ↔ a = b := by
  constructor
  · intro h
    rw [Str.ofString_eq_toList, Str.ofString_eq_toList] at h
    have h2 : a.toList.map Char.toNat = b.toList.map Char.toNat := by simpa using congrArg Str.cps h
    have h3 : a.toList = b.toList := (List.map_inj_right (fun x y e => Char.ext (UInt32.toNat_inj.mp e))).mp h2
    exact String.toList_inj.mp h3
  · rintro rfl; rfl

theorem notImm_ns {h : Heap} {L : Addr} {m : Str → Option Value} (n1 : h.Ns L m) : ∀ o, h.get? L = some o → immObj o = false := fun o e => by
  obtain ⟨o', es, ep, e1, e2, _⟩ := n1
  rw [e] at e1; cases e1
  rw [immObj, e2]
theorem notImm_cell {h : Heap} {L : Addr} {v : Option Value} (n1 : h.IsCell L v) : ∀ o, h.get? L = some o → immObj o = false := fun o e => by
  obtain ⟨o', e1, e2⟩ := n1
  rw [e] at e1; cases e1
  rw [immObj, e2]

section
variable {prog : Program} {w : World} {TS : TopS} {c : Cx} {A : Around} {env : Env} {σ : LS} {s : Shared} {n : Nat}

theorem at_load {x : String} (hk : nameOk env x = true) (hf : env.scope.kind = .function) (h : Rel prog w c env σ s) : At prog w c A env (loadName env (Str.ofString x)) VRel (pget x) σ s := by
  intro Q E q
  obtain ⟨v, hv, q⟩ := q
  unfold nameOk at hk
  obtain ⟨m, n1, n2⟩ := h.ns
  cases hx : env.kindOf (Str.ofString x) with
  | none => rw [hx] at hk; cases hk
  | some k =>
    rw [hx] at hk
    cases k with
    | «local» =>
      obtain ⟨y, hy, hr⟩ := OV.some_left (hv ▸ n2 x hx)
      exact wpAny_loadName_local hf hx n1 hy ⟨v, σ, hr, h, Imm.refl _, q⟩
    | cell =>
      obtain ⟨a, v', e1, e2, e3⟩ := h.cell x (.inl hx)
      obtain ⟨y, rfl, hr⟩ := OV.some_left (hv ▸ e3)
      exact wpAny_loadName_cell hf hx e1 e2 ⟨v, σ, hr, h, Imm.refl _, q⟩
    | free =>
      obtain ⟨a, v', e1, e2, e3⟩ := h.cell x (.inr hx)
      obtain ⟨y, rfl, hr⟩ := OV.some_left (hv ▸ e3)
      refine wpAny_loadName_free hf hx e1 e2 ⟨v, σ, hr, h, Imm.refl _, q⟩ ?_
      rw [Bool.and_eq_true_iff] at hk
      rw [beq_eq_false_iff_ne]
      intro z
      have := ofString_inj.mp z
      subst this
      exact absurd hk.2 (by decide)
    | _ => cases hk

theorem sim_Name {x : String} {pos : Pos} (hk : nameOk env x = true) : Sim prog w TS n A env (eval (.Name (Str.ofString x) pos) env) VRel (pget x) := fun c σ s W h Q E q => by
  refine wpAny_Name (at_load hk W.sep.kind h Q E q) ?_
  rw [beq_eq_false_iff_ne]
  intro z
  have := ofString_inj.mp z
  subst this
  unfold nameOk at hk
  split at hk <;> first | (exact absurd hk (by decide)) | cases hk

theorem at_store {x : String} {a : LV} {v : Value} (hk : StoreOk env x) (W : WF TS n c A env) (h : Rel prog w c env σ s) (hv : VRel s.heap a v) : At prog w c A env (storeName env (Str.ofString x) v) REq (pset x a) σ s := by
  intro Q E q
  obtain ⟨m, n1, n2⟩ := h.ns
  rcases hk with hx | ⟨hx, d, e1, hlt⟩
  ·   skip
      refine wpAny_storeName_local hx n1 (fun h' hn hs => ?_) (by rw [W.sep.kind]; rfl)
      have im := Imm.of_extBut hs.extBut (notImm_ns n1)
      refine ⟨(), σ.set x a, rfl, ?_, im, q⟩
      refine ⟨fun b o e => (hs.2 b ?_).trans (h.keep b o e), fun p hp => (h.guard p hp).imp fun _ e => ⟨(hs.2 _ (W.sep.gL p hp)).trans e.1, e.2⟩, ⟨_, hn, fun y hy => ?_⟩, fun y hy => ?_, fun y hy => ?_, fun b o e => ?_, h.dom, h.gens, h.os, h.drawn⟩
      · exact Nat.ne_of_lt (Nat.lt_of_lt_of_le (Heap.lt_size e) W.sep.above)
      · show OV h' (if y = x then some a else σ.loc y) (if Str.ofString y = Str.ofString x then some v else m (Str.ofString y))
        by_cases z : y = x
        · subst z; simp; exact hv.imm im
        · rw [if_neg z, if_neg (fun q => z (ofString_inj.mp q))]; exact (n2 y hy).imm im
      · obtain ⟨b, v', e1, e2, e3⟩ := h.cell y hy
        refine ⟨b, v', e1, e2.sameBut hs (W.sep.cellL (_, b) (mem_of_lookup e1)), ?_⟩
        show OV h' (if y = x then some a else σ.loc y) v'
        rw [if_neg (by rintro rfl; rcases hy with hy | hy <;> (rw [hx] at hy; cases hy))]
        exact e3.imm im
      · exact (h.cin y hy).imp fun v' e => e.sameBut hs (W.sep.cellL y hy)
      · exact (h.obj b o e).move im fun ob eb => (hs.2 _ (h.dom b o e).2.1).trans eb
  ·   obtain ⟨d', v₀, e1', e2, e3⟩ := h.cell x (.inl hx)
      rw [e1] at e1'; cases e1'
      have hd := mem_of_lookup e1
      refine wpAny_storeName_cell W.sep.kind hx e1 e2 (fun h' hn hs => ?_)
      have im := Imm.of_extBut hs.extBut (notImm_cell e2)
      refine ⟨(), σ.set x a, rfl, ?_, im, q⟩
      refine ⟨fun b o e => (hs.2 b ?_).trans (h.keep b o e), fun p hp => (h.guard p hp).imp fun _ e => ⟨(hs.2 _ ?_).trans e.1, e.2⟩, ⟨m, n1.sameBut hs (Ne.symm (W.sep.cellL _ hd)), fun y hy => ?_⟩, fun y hy => ?_, fun y hy => ?_, fun b o e => ?_, h.dom, h.gens, h.os, h.drawn⟩
      · rintro rfl; rw [W.sep.cellB _ hd] at e; cases e
      · exact W.sep.gOwn p hp _ hd hlt
      · show OV h' (if y = x then some a else σ.loc y) (m (Str.ofString y))
        rw [if_neg (by rintro rfl; rw [hx] at hy; cases hy)]
        exact (n2 y hy).imm im
      · obtain ⟨b, v', f1, f2, f3⟩ := h.cell y hy
        show ∃ a_1 v_1, env.cells.lookup (Str.ofString y) = some a_1 ∧ h'.IsCell a_1 v_1 ∧ OV h' (if y = x then some a else σ.loc y) v_1
        by_cases z : y = x
        · subst z; simp only [if_true]; exact ⟨d, some v, e1, hn, hv.imm im⟩
        · rw [if_neg z]
          refine ⟨b, v', f1, f2.sameBut hs (fun q => z (ofString_inj.mp ?_)), f3.imm im⟩
          exact W.sep.cellU _ (mem_of_lookup f1) _ hd q
      · by_cases z : y.2 = d
        · rw [z]; exact ⟨_, hn⟩
        · exact (h.cin y hy).imp fun v' e => e.sameBut hs z
      · exact (h.obj b o e).move im fun ob eb => (hs.2 _ (Ne.symm ((h.dom b o e).2.2.2 _ hd))).trans eb
end
end Mine
end
noncomputable section
open PySem PySem.W PyProof.Rows PySem.Calls
set_option Elab.async false
set_option linter.unusedVariables false
namespace Mine
section
variable {prog : Program} {w : World} {TS : TopS} {c : Cx} {A : Around} {env : Env} {σ : LS} {s : Shared} {n : Nat}

theorem Rel.funFrames (W : WF TS n c A env) (r : Rel prog w c env σ s) (hf : env.frame = some env.locals) :
    ∃ outer, A.frames = some (env :: outer) ∧ s.heap.FunFrames c.base (env :: outer) ∧ ∀ a ∈ (env :: outer).filterMap (·.frame), a = env.locals ∨ ∃ o es ep, (a, o) ∈ c.G ∧ o.data = .dict es ep := by
  obtain ⟨outer, h1, h2⟩ := W.fr hf
  have hbase : c.base.get? env.locals = none := by
    cases q : c.base.get? env.locals with
    | none => rfl
    | some o => exact absurd (Nat.lt_of_lt_of_le (Heap.lt_size q) W.sep.above) (Nat.lt_irrefl _)
  refine ⟨outer, h1, ?_, ?_⟩
  · obtain ⟨m, ⟨oL, es, ep, e1, e2, _⟩, _⟩ := r.ns
    refine ⟨by rw [W.sep.kind]; decide, ⟨env.locals, oL, hf, hbase, e1, fun vs q => by rw [e2] at q; cases q⟩, ?_⟩
    clear h1
    induction outer with
    | nil => trivial
    | cons e r' ih =>
      obtain ⟨k1, L, o, k2, k3, k4, es, ep, k5⟩ := h2 e (.head _)
      obtain ⟨og, g, g1, g2, _⟩ := r.guard _ k3
      refine ⟨k1, ⟨L, _, k2, k4, g, fun vs q => ?_⟩, ih fun e' he' => h2 e' (.tail _ he')⟩
      have q' : o.data = .fields vs := g2.symm.trans q
      rw [k5] at q'; cases q'
  · intro a ha
    obtain ⟨e, he, hfe⟩ := List.mem_filterMap.mp ha
    rcases List.mem_cons.mp he with rfl | he
    · rw [hf] at hfe; exact .inl (Option.some.inj hfe).symm
    · obtain ⟨k1, L, o, k2, k3, k4, es, ep, k5⟩ := h2 e he
      rw [k2] at hfe; cases hfe
      exact .inr ⟨o, es, ep, k3, k5⟩

/-- slots of frames alone turned -/
theorem Rel.slotsOnly (r : Rel prog w c env σ s) (W : WF TS n c A env) {S : List Addr} {h' : Heap} (hS : ∀ a ∈ S, a = env.locals ∨ ∃ o es ep, (a, o) ∈ c.G ∧ o.data = .dict es ep) (hB : ∀ a ∈ S, c.base.get? a = none) (hs : Heap.SlotsOnly S s.heap h') :
    Rel prog w c env σ { s with heap := h' } ∧ Imm s.heap h' := by
  have notS : ∀ b o, s.heap.get? b = some o → b ∈ S → ∃ es ep, o.data = .dict es ep := fun b o e hb => by
    rcases hS b hb with rfl | ⟨o', es, ep, h1, h2⟩
    · obtain ⟨m, ⟨oL, es, ep, e1, e2, _⟩, _⟩ := r.ns
      rw [e] at e1; cases e1; exact ⟨es, ep, e2⟩
    · obtain ⟨og, g, g1, g2, _⟩ := r.guard _ h1
      rw [e] at g; cases g; exact ⟨es, ep, g2.trans h2⟩
  have im : Imm s.heap h' := fun b o e i => by
    by_cases hb : b ∈ S
    · obtain ⟨es, ep, q⟩ := notS b o e hb
      rw [immObj, q] at i; cases i
    · exact (hs.2.1 b hb).trans e
  obtain ⟨m, ⟨oL, es, ep, e1, e2, e3⟩, n2⟩ := r.ns
  obtain ⟨slL, hL⟩ := hs.2.2 _ _ e1
  refine ⟨⟨fun b o e => (hs.2.1 b fun hb => by rw [hB b hb] at e; cases e).trans (r.keep b o e), fun p hp => ?_, ⟨m, ⟨_, es, ep, hL, e2, e3⟩, fun x hx => (n2 x hx).imm im⟩, fun x hx => ?_, fun y hy => ?_, fun a o e => ?_, r.dom, r.gens, r.os, r.drawn⟩, im⟩
  · obtain ⟨og, g, g1, g2, g3⟩ := r.guard p hp
    obtain ⟨sl', g'⟩ := hs.2.2 _ _ g
    by_cases hx : exactO p.2 = true
    · have hnS : p.1 ∉ S := fun hb => by
        obtain ⟨es, ep, q⟩ := notS p.1 og g hb
        rw [g2] at q; unfold exactO at hx; rw [q] at hx; cases hx
      exact ⟨og, (hs.2.1 _ hnS).trans g, g1, g2, g3⟩
    · exact ⟨_, g', g1, g2, fun q => absurd q hx⟩
  · obtain ⟨a, v, f1, ⟨oc, f2, f3⟩, f4⟩ := r.cell x hx
    obtain ⟨sl', g'⟩ := hs.2.2 _ _ f2
    exact ⟨a, v, f1, ⟨_, g', f3⟩, f4.imm im⟩
  · obtain ⟨v, oc, f2, f3⟩ := r.cin y hy
    obtain ⟨sl', g'⟩ := hs.2.2 _ _ f2
    exact ⟨v, _, g', f3⟩
  · refine (r.obj a o e).move im fun ob eb => (hs.2.1 a fun hb => ?_).trans eb
    rcases hS a hb with rfl | ⟨o', _, _, h1, _⟩
    · exact (r.dom _ o e).2.1 rfl
    · exact (r.dom a o e).2.2.1 _ h1 rfl


theorem Off.ne {a : Addr} (r : Rel prog w c env σ s) (o : Off c σ a) {ob : Obj} {vs : Array Value} (e : s.heap.get? a = some ob) (d : ob.data = .fields vs) : a ≠ env.locals ∧ ∀ y ∈ env.cells, y.2 ≠ a := by
  constructor
  · rintro rfl
    obtain ⟨m, ⟨oL, es, ep, e1, e2, _⟩, _⟩ := r.ns
    rw [e] at e1; cases e1; rw [d] at e2; cases e2
  · rintro y hy rfl
    obtain ⟨v, oc, e1, e2⟩ := r.cin y hy
    rw [e] at e1; cases e1; rw [d] at e2; cases e2

/-- an object off the lite state turned -/
theorem Rel.off (r : Rel prog w c env σ s) {a : Addr} (o : Off c σ a) {ob : Obj} {vs : Array Value} (e : s.heap.get? a = some ob) (d : ob.data = .fields vs) (hc : (ob.cls == .type "method-wrapper" || ob.cls == .type "range") = false) {h' : Heap} (k : Heap.ExtBut a s.heap h') : Rel prog w c env σ { s with heap := h' } ∧ Imm s.heap h' := by
  have ni : ∀ o, s.heap.get? a = some o → immObj o = false := fun o q => by
    rw [e] at q; cases q
    rw [immObj, d]; exact hc
  obtain ⟨n1, n2⟩ := o.ne r e d
  exact ⟨r.extBut k ni o.1 n1 o.2.2 n2 o.2.1, Imm.of_extBut k ni⟩

theorem ExcOb.cls_ne {σ : LS} {h : Heap} {x : LX} {ea : Addr} {oe : Obj} {vs : Array Value} (o : ExcOb c σ h x ea oe vs) : (oe.cls == .type "method-wrapper" || oe.cls == .type "range") = false := by
  rw [o.cls]; rcases o.name with q | q <;> rw [q] <;> rfl

/-- noteFrame upon an exception on its way -/
theorem at_note {x : LX} {e : Value} {Q : Unit → Shared → Prop} {E : Value → Shared → Prop} (W : WF TS n c A env) (hf : env.frame = some env.locals) (r : Rel prog w c env σ s) (y : ExcAt c env σ s.heap x e)
    (q : ∀ h', Rel prog w c env σ { s with heap := h' } → ExcTb c σ h' x e (rawInt env.locals) → Imm s.heap h' → Q () { s with heap := h' }) : wpAny (model prog w) A (noteFrame e env) Q E s := by
  obtain ⟨ea, oe, vs, rfl, ob, h1 | ⟨T, oT, ts, h1, tb⟩⟩ := y
  · obtain ⟨outer, fr1, fr2, fr3⟩ := r.funFrames W hf
    unfold noteFrame
    simp only [hf]
    refine wpAny_bind (wpAny_field ob.at_ ob.data h1 ?_)
    rw [if_neg (by decide)]
    refine wpAny_bind (wpAny_frameOf_fun fr1 fr2 hf fun h₁ hs₁ => ?_)
    obtain ⟨r₁, im₁⟩ := r.slotsOnly W fr3 (fun _ ha => (fr2.mem ha).1) hs₁
    refine wpAny_bind (wpAny_entryPlaceOf fun pl hpl => ?_)
    unfold EntryCells.newEntry newFields
    refine wpAny_bind (wpAny_newObj_type ?_ (hpl.sizeOk5 _ _ _ _ _))
    have hea : h₁.get? ea = some oe := (hs₁.2.1 ea fun hm => by
      obtain ⟨_, o, ho, hnf⟩ := fr2.mem hm
      rw [ob.at_] at ho; cases ho; exact hnf vs ob.data).trans ob.at_
    have r₂ := r₁.keeps (tk := s.toks) (h' := h₁.push { cls := .type "traceback", dict := none, data := .fields ([Value.none, .ref env.locals, .none, rawInt env.locals, .none] ++ (if pl.isEmpty then List.replicate 6 Value.none else pl)).toArray }) fun b o e => Heap.get?_push_of_some _ e
    have im₂ : Imm h₁ (h₁.push { cls := .type "traceback", dict := none, data := .fields ([Value.none, .ref env.locals, .none, rawInt env.locals, .none] ++ (if pl.isEmpty then List.replicate 6 Value.none else pl)).toArray }) := Imm.of_keeps fun b o e => Heap.get?_push_of_some _ e
    have he₂ := Heap.get?_push_of_some (h := h₁) { cls := .type "traceback", dict := none, data := .fields ([Value.none, .ref env.locals, .none, rawInt env.locals, .none] ++ (if pl.isEmpty then List.replicate 6 Value.none else pl)).toArray } hea
    refine wpAny_setField he₂ ob.data (Nat.lt_of_succ_lt ob.size) ?_
    have hT₂ := Heap.get?_push_size h₁ (o := { cls := .type "traceback", dict := none, data := .fields ([Value.none, .ref env.locals, .none, rawInt env.locals, .none] ++ (if pl.isEmpty then List.replicate 6 Value.none else pl)).toArray }) rfl
    have hTe : h₁.objs.size ≠ ea := Nat.ne_of_gt (Heap.lt_size hea)
    have hd₃ := Obj.data_mapFields ob.data (·.setIfInBounds 1 (Value.ref h₁.objs.size))
    have hu : Heap.ExtBut ea (h₁.push { cls := .type "traceback", dict := none, data := .fields ([Value.none, .ref env.locals, .none, rawInt env.locals, .none] ++ (if pl.isEmpty then List.replicate 6 Value.none else pl)).toArray }) _ :=
      (Heap.SameBut.update _ ea (Obj.mapFields (·.setIfInBounds 1 (Value.ref h₁.objs.size)))).extBut
    obtain ⟨r₃, im₃⟩ := r₂.off ob.off he₂ ob.data ob.cls_ne hu
    have he₃ := Heap.get?_update_self (Obj.mapFields (·.setIfInBounds 1 (Value.ref h₁.objs.size))) he₂ (Obj.isFreed_of_fields hd₃)
    refine q _ r₃ ⟨ea, _, _, h₁.objs.size, _, _, rfl, ⟨he₃, ?_, ob.name, hd₃, ob.off, by simpa using ob.size, fun hc => ?_⟩, ?_, ⟨(Heap.get?_update_other _ _ (Ne.symm hTe)).trans hT₂, rfl, rfl, ?_, ?_⟩⟩ ((im₁.trans im₂).trans im₃)
    · obtain ⟨cl, d, dt, sl⟩ := oe; have := ob.cls; cases dt <;> exact this
    · have := ob.ctx hc
      rw [Array.getElem?_setIfInBounds, if_neg (by decide)]; exact this
    · rw [Array.getElem?_setIfInBounds, if_pos rfl, if_pos (Nat.lt_of_succ_lt ob.size)]
    · simp
    · exact ⟨r₁.fresh_base, r₁.fresh_obj, r₁.fresh_G⟩
  · unfold noteFrame
    simp only [hf]
    refine wpAny_bind (wpAny_field ob.at_ ob.data h1 ?_)
    rw [if_pos (show (Value.ref T != Value.none) = true from by simp)]
    refine wpAny_bind (wpAny_field tb.at_ tb.data tb.fl ?_)
    rw [if_pos (show (rawInt env.locals == rawInt env.locals) = true from by first | (simp; done) | exact beq_self_eq_true _)]
    exact wpAny_pure (q _ r ⟨ea, oe, vs, T, oT, ts, rfl, ob, h1, tb⟩ (Imm.refl _))

/-- setFlight upon a noted exception -/
theorem at_flight {x : LX} {e fl : Value} {f : Option Addr} {Q : Unit → Shared → Prop} {E : Value → Shared → Prop} (r : Rel prog w c env σ s) (y : ExcTb c σ s.heap x e fl)
    (q : ∀ h', Rel prog w c env σ { s with heap := h' } → ExcTb c σ h' x e (f.elim .none fun a => rawInt a) → Imm s.heap h' → Q () { s with heap := h' }) : wpAny (model prog w) A (setFlight e f) Q E s := by
  obtain ⟨ea, oe, vs, T, oT, ts, rfl, ob, h1, tb⟩ := y
  unfold setFlight
  refine wpAny_bind (wpAny_field ob.at_ ob.data h1 ?_)
  rw [if_pos (show (Value.ref T != Value.none) = true from by simp)]
  have hsz : 3 < ts.size := (Array.getElem?_eq_some_iff.mp tb.fl).1
  refine wpAny_setField tb.at_ tb.data hsz ?_
  have hd₃ := Obj.data_mapFields tb.data (·.setIfInBounds 3 (f.elim Value.none fun a => rawInt a))
  obtain ⟨r₃, im₃⟩ := r.off tb.off tb.at_ tb.data (by rw [tb.cls]; rfl) (Heap.SameBut.update s.heap T (Obj.mapFields (·.setIfInBounds 3 (f.elim Value.none fun a => rawInt a)))).extBut
  have hne : T ≠ ea := fun z => by
    have h9 := tb.cls; have h8 := ob.cls; have e1 := tb.at_; rw [z, ob.at_] at e1; cases e1
    rw [h8] at h9; rcases ob.name with q | q <;> (rw [q] at h9; exact absurd h9 (by decide))
  refine q _ r₃ ⟨ea, oe, vs, T, _, _, rfl, ⟨(Heap.get?_update_other _ _ hne).trans ob.at_, ob.cls, ob.name, ob.data, ob.off, ob.size, ob.ctx⟩, h1, ⟨Heap.get?_update_self _ tb.at_ (Obj.isFreed_of_fields hd₃), ?_, hd₃, ?_, tb.off⟩⟩ im₃
  · obtain ⟨cl, d, dt, sl⟩ := oT; have := tb.cls; cases dt <;> exact this
  · rw [Array.getElem?_setIfInBounds, if_pos rfl, if_pos hsz]

theorem at_back {x : LX} {e fl : Value} {E : Value → Shared → Prop} (hf : env.frame = some env.locals) (r : Rel prog w c env σ s) (y : ExcTb c σ s.heap x e fl)
    (q : ∀ h', Rel prog w c env σ { s with heap := h' } → ExcTb c σ h' x e (rawInt env.locals) → Imm s.heap h' → E e { s with heap := h' }) : cameBackBy (model prog w) A env E e s := by
  unfold cameBackBy
  obtain ⟨ea, oe, vs, T, oT, ts, rfl, ob, h1, tb⟩ := id y
  refine wpAny_bind (wpAny_field ob.at_ ob.data h1 ?_)
  rw [if_neg (show ¬ ((Value.ref T == Value.none) = true) from by simp)]
  rw [hf]
  exact at_flight r y fun h' a b d => q h' a b d

theorem passes {h0 : Heap} {E : LX → LS → Prop} {A' : Around} (W : WF TS n c A' env) (hf : env.frame = some env.locals) : PassesOwnAt (model prog w) A' A env (EPost prog w c env h0 E) := by
  rintro e s' ⟨x, σ', y, r, im, ex⟩
  exact at_note W hf r y fun h' r' y' im' => at_back hf r' y' fun h'' r'' y'' im'' => ⟨x, σ', y''.at, r'', (im.trans im').trans im'', ex⟩
end
end Mine
end
noncomputable section
open PySem PySem.W PyProof.Rows PySem.Calls
set_option Elab.async false
set_option linter.unusedVariables false
namespace Mine

abbrev pseq (m k : PTx LF) : PTx LF := fun Q E σ => m (fun f σ' => match f with | .next => k Q E σ' | .brk => Q .brk σ' | .cont => Q .cont σ' | .ret v => Q (.ret v) σ') E σ
abbrev pif (t : PTx Bool) (a b : PTx LF) : PTx LF := fun Q E σ => t (fun b' σ' => if b' = true then a Q E σ' else b Q E σ') E σ
def pwhile (test : PTx Bool) (body orelse : PTx LF) : PTx LF := fun Q E σ =>
  ∀ P : LS → Prop, (∀ σ, test (fun b σ' => if b = true then body (fun f σ'' => match f with | .next => P σ'' | .cont => P σ'' | .brk => Q .next σ'' | .ret v => Q (.ret v) σ'') E σ' else orelse Q E σ') E σ → P σ) → P σ
def RB (_ : Heap) (b : Bool) (v : Value) : Prop := v = .bool b

section
variable {prog : Program} {w : World} {TS : TopS} {c : Cx} {A : Around} {env : Env} {σ : LS} {s : Shared} {n : Nat}


theorem At.go {α β : Type} {t : Sem α} {R : Heap → β → α → Prop} {m : PTx β} {K : β → LS → Prop} {E : LX → LS → Prop} {P : α → Shared → Prop} {h0 : Heap}
    (h : At prog w c A env t R m σ s) (i0 : Imm h0 s.heap) (q : m K E σ) (g : ∀ lv v σ' s', R s'.heap lv v → Rel prog w c env σ' s' → Imm h0 s'.heap → Imm s.heap s'.heap → K lv σ' → P v s') :
    wpAny (model prog w) A t P (EPost prog w c env h0 E) s := by
  refine wpAny_mono (h K E q) (fun v s' p => ?_) fun _ _ x => x.imm i0
  obtain ⟨lv, σ', a, b, d, e⟩ := p
  exact g lv v σ' s' a b (i0.trans d) d e
theorem At.fin {α β : Type} {t : Sem α} {R : Heap → β → α → Prop} {m : PTx β} {Q : β → LS → Prop} {E : LX → LS → Prop} {h0 : Heap}
    (h : At prog w c A env t R m σ s) (i0 : Imm h0 s.heap) (q : m Q E σ) : wpAny (model prog w) A t (Post prog w c env R h0 Q) (EPost prog w c env h0 E) s :=
  wpAny_mono (h Q E q) (fun _ _ p => p.imm i0) fun _ _ x => x.imm i0

-- constants
theorem sim_int {i : Int} {k : Nat} {pos : Pos} : Sim prog w TS n A env (eval (.Constant (.int i) k pos) env) VRel (pret (.int i)) :=
  fun _ _ _ _ r _ _ q => wpAny_Constant_int ⟨_, _, .int _ _, r.toks _, Imm.refl _, q⟩
theorem sim_none {k : Nat} {pos : Pos} : Sim prog w TS n A env (eval (.Constant .none k pos) env) VRel (pret .none) :=
  fun _ _ _ _ r _ _ q => wpAny_Constant_none ⟨_, _, .none, r, Imm.refl _, q⟩
theorem sim_bool {b : Bool} {k : Nat} {pos : Pos} : Sim prog w TS n A env (eval (.Constant (.bool b) k pos) env) VRel (pret (.bool b)) :=
  fun _ _ _ _ r _ _ q => wpAny_pure ⟨_, _, .bool _, r, Imm.refl _, q⟩

-- globals
theorem at_glob {x : String} {v : Value} {pos : Pos} (hv : TS.gl x = some v) (hk : env.kindOf (Str.ofString x) = some .globalImplicit) (hd : (Str.ofString x == ("__debug__" : Str)) = false) (W : WF TS n c A env) (r : Rel prog w c env σ s)
    {Q : Value → Shared → Prop} {E : Value → Shared → Prop} (q : Q v s) : wpAny (model prog w) A (eval (.Name (Str.ofString x) pos) env) Q E s := by
  obtain ⟨mg, mb, hg, hb, hh⟩ := W.top.globs
  have hg' : s.heap.Ns env.globals mg := by rw [W.sep.glob]; exact hg.keeps r.keep
  have hb' : s.heap.Ns env.builtins mb := by rw [W.sep.bui]; exact hb.keeps r.keep
  rcases hh x v hv with q1 | ⟨q1, q2⟩
  · exact Name_function_global W.sep.kind hk (loadGlobal_global hg' q1 q) hd
  · exact Name_function_global W.sep.kind hk (loadGlobal_builtin hg' q1 hb' q2 q) hd
theorem sim_globInt {x : String} {i : Int} {t : Tok} {pos : Pos} (hv : TS.gl x = some (.int i t)) (hk : env.kindOf (Str.ofString x) = some .globalImplicit) (hd : (Str.ofString x == ("__debug__" : Str)) = false) :
    Sim prog w TS n A env (eval (.Name (Str.ofString x) pos) env) VRel (pret (.int i)) :=
  fun c σ s W r Q E q => at_glob hv hk hd W r ⟨_, _, .int _ _, r, Imm.refl _, q⟩

-- operators
theorem sim_BinOp {l r : Expr} {op : Operator} {pos : Pos} {ml mr : PTx LV} {p : LV → LV → PTx LV} (hl : Sim prog w TS n A env (eval l env) VRel ml) (hr : Sim prog w TS n A env (eval r env) VRel mr) (ho : Sim2 prog w TS n A env (binaryOp op) VRel p) :
    Sim prog w TS n A env (eval (.BinOp l op r pos) env) VRel (pbind ml fun a => pbind mr fun b => p a b) := fun c σ s W h Q E q =>
  wpAny_BinOp ((hl c σ s W h).go (Imm.refl _) q fun a x σ₁ s₁ ra h₁ i₁ j₁ q₁ => (hr c σ₁ s₁ W h₁).go i₁ q₁ fun b y σ₂ s₂ rb h₂ i₂ j₂ q₂ => (ho c σ₂ s₂ a x b y W h₂ (ra.imm j₂) rb).fin i₂ q₂)
theorem sim_Compare {l r : Expr} {op : CmpOp} {pos : Pos} {ml mr : PTx LV} {p : LV → LV → PTx Bool} (hl : Sim prog w TS n A env (eval l env) VRel ml) (hr : Sim prog w TS n A env (eval r env) VRel mr) (ho : Sim2 prog w TS n A env (compareOp op) RB p)
    (hm : behindInMarks op r = false) : Sim prog w TS n A env (eval (.Compare l [op] [r] pos) env) VRel (pbind ml fun a => pbind mr fun b => pbind (p a b) fun z => pret (.bool z)) := fun c σ s W h Q E q =>
  wpAny_Compare1 ((hl c σ s W h).go (Imm.refl _) q fun a x σ₁ s₁ ra h₁ i₁ j₁ q₁ => (hr c σ₁ s₁ W h₁).go i₁ q₁ fun b y σ₂ s₂ rb h₂ i₂ j₂ q₂ => (ho c σ₂ s₂ a x b y W h₂ (ra.imm j₂) rb).go i₂ q₂ fun z v σ₃ s₃ rz h₃ i₃ j₃ q₃ => ⟨_, σ₃, by rw [show v = _ from rz]; exact .bool z, h₃, i₃, q₃⟩) hm
theorem sim_test_Compare {l r : Expr} {op : CmpOp} {pos : Pos} {ml mr : PTx LV} {p : LV → LV → PTx Bool} {whole : Sem Value} (hl : Sim prog w TS n A env (eval l env) VRel ml) (hr : Sim prog w TS n A env (eval r env) VRel mr) (ho : Sim2 prog w TS n A env (compareOp op) RB p)
    (hm : behindInMarks op r = false) : Sim prog w TS n A env (isTrue (.Compare l [op] [r] pos) env whole) REq (pbind ml fun a => pbind mr fun b => p a b) := fun c σ s W h Q E q =>
  wpAny_isTrue_Compare1 ((hl c σ s W h).go (Imm.refl _) q fun a x σ₁ s₁ ra h₁ i₁ j₁ q₁ => (hr c σ₁ s₁ W h₁).go i₁ q₁ fun b y σ₂ s₂ rb h₂ i₂ j₂ q₂ => (ho c σ₂ s₂ a x b y W h₂ (ra.imm j₂) rb).go i₂ q₂ fun z v σ₃ s₃ rz h₃ i₃ j₃ q₃ => by
    rw [show v = _ from rz]; exact wpAny_truthy_bool ⟨z, σ₃, rfl, h₃, i₃, q₃⟩) hm
theorem sim_UnaryOp {x : Expr} {op : UnaryOp} {pos : Pos} {m : PTx LV} {p : LV → PTx LV} (hx : Sim prog w TS n A env (eval x env) VRel m) (ho : Sim1 prog w TS n A env (unaryOp op) VRel p) :
    Sim prog w TS n A env (eval (.UnaryOp op x pos) env) VRel (pbind m p) := fun c σ s W h Q E q =>
  wpAny_UnaryOp ((hx c σ s W h).go (Imm.refl _) q fun a x σ₁ s₁ ra h₁ i₁ j₁ q₁ => (ho c σ₁ s₁ a x W h₁ ra).fin i₁ q₁)
theorem sim_test_Not {x : Expr} {pos : Pos} {whole : Sem Value} {m : PTx Bool} (hx : Sim prog w TS n A env (isTrue x env (eval x env)) REq m) :
    Sim prog w TS n A env (isTrue (.UnaryOp .Not x pos) env whole) REq (pbind m fun b => pret (!b)) := fun c σ s W h Q E q =>
  wpAny_isTrue_Not ((hx c σ s W h).go (Imm.refl _) q fun a x σ₁ s₁ ra h₁ i₁ j₁ q₁ => ⟨!a, σ₁, by rw [show a = x from ra]; rfl, h₁, i₁, q₁⟩)
theorem sim_test_And {x y : Expr} {pos : Pos} {whole : Sem Value} {m k : PTx Bool} (hx : Sim prog w TS n A env (isTrue x env (eval x env)) REq m) (hy : Sim prog w TS n A env (isTrue y env (eval y env)) REq k) :
    Sim prog w TS n A env (isTrue (.BoolOp .And [x, y] pos) env whole) REq (pbind m fun b => fun Q E σ => if b = true then k Q E σ else Q false σ) := fun c σ s W h Q E q => by
  refine wpAny_isTrue_BoolOp (wpAny_allTrue_And_cons ((hx c σ s W h).go (Imm.refl _) q fun a x σ₁ s₁ ra h₁ i₁ j₁ q₁ => ?_))
  cases show a = x from ra
  cases a with
  | false => simp at q₁ ⊢; exact ⟨false, σ₁, rfl, h₁, i₁, q₁⟩
  | true =>
    simp at q₁ ⊢
    refine wpAny_allTrue_And_cons ((hy c σ₁ s₁ W h₁).go i₁ q₁ fun b x σ₂ s₂ rb h₂ i₂ j₂ q₂ => ?_)
    cases show b = x from rb
    cases b with
    | false => simp; exact ⟨false, σ₂, rfl, h₂, i₂, q₂⟩
    | true => simp; exact wpAny_allTrue_And_nil ⟨true, σ₂, rfl, h₂, i₂, q₂⟩
theorem sim_test_val {e : Expr} {m : PTx LV} {p : LV → PTx Bool} (hx : Sim prog w TS n A env (eval e env) VRel m) (ht : Sim1 prog w TS n A env truthy REq p)
    (he : isTrue e env (eval e env) = (do let v ← eval e env; standAt e.pos; holding [v] (truthy v))) : Sim prog w TS n A env (isTrue e env (eval e env)) REq (pbind m p) := fun c σ s W h Q E q =>
  wpAny_isTrue_value ((hx c σ s W h).go (Imm.refl _) q fun a x σ₁ s₁ ra h₁ i₁ j₁ q₁ => (ht c σ₁ s₁ a x W h₁ ra).fin i₁ q₁) he
theorem sim_IfExp {t a b : Expr} {pos : Pos} {mt : PTx Bool} {ma mb : PTx LV} (ht : Sim prog w TS n A env (isTrue t env (eval t env)) REq mt) (ha : Sim prog w TS n A env (eval a env) VRel ma) (hb : Sim prog w TS n A env (eval b env) VRel mb) :
    Sim prog w TS n A env (eval (.IfExp t a b pos) env) VRel (pbind mt fun z => fun Q E σ => if z = true then ma Q E σ else mb Q E σ) := fun c σ s W h Q E q =>
  wpAny_IfExp ((ht c σ s W h).go (Imm.refl _) q fun z x σ₁ s₁ rz h₁ i₁ j₁ q₁ => by
    cases show z = x from rz
    cases z with
    | true => simp at q₁ ⊢; exact (ha c σ₁ s₁ W h₁).fin i₁ q₁
    | false => simp at q₁ ⊢; exact (hb c σ₁ s₁ W h₁).fin i₁ q₁)

-- statements
theorem sim_nil : Sim prog w TS n A env (execs [] env) FlRel (pret .next) := fun c σ s W h Q E q => wpAny_execs_nil ⟨_, σ, .next, h, Imm.refl _, q⟩
theorem sim_cons {st : Stmt} {rest : List Stmt} {m k : PTx LF} (h1 : Sim prog w TS n A env (exec st env) FlRel m) (h2 : Sim prog w TS n A env (execs rest env) FlRel k) : Sim prog w TS n A env (execs (st :: rest) env) FlRel (pseq m k) := fun c σ s W h Q E q => by
  refine wpAny_execs_cons ((h1 c σ s W h).go (Imm.refl _) q fun f v σ₁ s₁ rf h₁ i₁ j₁ q₁ => ?_)
  cases rf with
  | next => exact (h2 c σ₁ s₁ W h₁).fin i₁ q₁
  | brk => exact ⟨_, σ₁, .brk, h₁, i₁, q₁⟩
  | cont => exact ⟨_, σ₁, .cont, h₁, i₁, q₁⟩
  | ret r => exact ⟨_, σ₁, .ret r, h₁, i₁, q₁⟩
theorem sim_one {st : Stmt} {m : PTx LF} (h1 : Sim prog w TS n A env (exec st env) FlRel m) : Sim prog w TS n A env (execs [st] env) FlRel m := fun c σ s W h Q E q => by
  refine wpAny_execs_cons ((h1 c σ s W h).go (Imm.refl _) q fun f v σ₁ s₁ rf h₁ i₁ j₁ q₁ => ?_)
  cases rf with
  | next => exact wpAny_execs_nil ⟨_, σ₁, .next, h₁, i₁, q₁⟩
  | brk => exact ⟨_, σ₁, .brk, h₁, i₁, q₁⟩
  | cont => exact ⟨_, σ₁, .cont, h₁, i₁, q₁⟩
  | ret r => exact ⟨_, σ₁, .ret r, h₁, i₁, q₁⟩
theorem sim_Break {pos : Pos} : Sim prog w TS n A env (exec (.Break pos) env) FlRel (pret .brk) := fun c σ s W h Q E q => wpAny_Break ⟨_, σ, .brk, h, Imm.refl _, q⟩
theorem sim_Continue {pos : Pos} : Sim prog w TS n A env (exec (.Continue pos) env) FlRel (pret .cont) := fun c σ s W h Q E q => wpAny_Continue ⟨_, σ, .cont, h, Imm.refl _, q⟩
theorem sim_Return {e : Expr} {pos : Pos} {m : PTx LV} (h1 : Sim prog w TS n A env (eval e env) VRel m) : Sim prog w TS n A env (exec (.Return (some e) pos) env) FlRel (pbind m fun v => pret (.ret v)) := fun c σ s W h Q E q =>
  wpAny_Return_some ((h1 c σ s W h).go (Imm.refl _) q fun a v σ₁ s₁ ra h₁ i₁ j₁ q₁ => ⟨_, σ₁, .ret ra, h₁, i₁, q₁⟩)
theorem sim_Expr {e : Expr} {pos : Pos} {m : PTx LV} (h1 : Sim prog w TS n A env (eval e env) VRel m) (hi : interactive env = false) (hs : swapsWith e none pos.line env = pure false) :
    Sim prog w TS n A env (exec (.Expr e pos) env) FlRel (pbind m fun _ => pret .next) := fun c σ s W h Q E q =>
  wpAny_Expr_any ((h1 c σ s W h).go (Imm.refl _) q fun a v σ₁ s₁ ra h₁ i₁ j₁ q₁ => ⟨_, σ₁, .next, h₁, i₁, q₁⟩) hi hs
theorem sim_If {t : Expr} {body orelse : List Stmt} {pos : Pos} {mt : PTx Bool} {ma mb : PTx LF} (ht : Sim prog w TS n A env (isTrue t env (eval t env)) REq mt) (ha : Sim prog w TS n A env (execs body env) FlRel ma) (hb : Sim prog w TS n A env (execs orelse env) FlRel mb) :
    Sim prog w TS n A env (exec (.If t body orelse pos) env) FlRel (pif mt ma mb) := fun c σ s W h Q E q =>
  wpAny_If ((ht c σ s W h).go (Imm.refl _) q fun z x σ₁ s₁ rz h₁ i₁ j₁ q₁ => by
    cases show z = x from rz
    cases z with
    | true => simp at q₁ ⊢; exact (ha c σ₁ s₁ W h₁).fin i₁ q₁
    | false => simp at q₁ ⊢; exact (hb c σ₁ s₁ W h₁).fin i₁ q₁)
theorem sim_Assign_Name {x : String} {e : Expr} {pos pos' : Pos} {m : PTx LV} (hk : StoreOk env x) (h1 : Sim prog w TS n A env (eval e env) VRel m) (hs : swapsWith e (some (.Name (Str.ofString x) pos')) pos.line env = pure false) :
    Sim prog w TS n A env (exec (.Assign [.Name (Str.ofString x) pos'] e pos) env) FlRel (pbind m fun v => pbind (pset x v) fun _ => pret .next) := fun c σ s W h Q E q =>
  wpAny_Assign_Name ((h1 c σ s W h).go (Imm.refl _) q fun a v σ₁ s₁ ra h₁ i₁ j₁ q₁ => (at_store hk W h₁ ra).go i₁ (K := fun _ σ' => Q .next σ') (E := E) q₁ fun _ _ σ₂ s₂ _ h₂ i₂ j₂ q₂ => ⟨_, σ₂, .next, h₂, i₂, q₂⟩) hs
theorem sim_AugAssign_Name {x : String} {e : Expr} {op : Operator} {pos pos' : Pos} {m : PTx LV} {p : LV → LV → PTx LV} (hk : StoreOk env x) (hn : nameOk env x = true) (h1 : Sim prog w TS n A env (eval e env) VRel m) (ho : Sim2 prog w TS n A env (inplaceOp op) VRel p) :
    Sim prog w TS n A env (exec (.AugAssign (.Name (Str.ofString x) pos') op e pos) env) FlRel (pbind (pget x) fun a => pbind m fun b => pbind (p a b) fun v => pbind (pset x v) fun _ => pret .next) := fun c σ s W h Q E q =>
  wpAny_AugAssign_Name ((at_load hn W.sep.kind h).go (Imm.refl _) (E := E) (K := fun a σ' => (pbind m fun b => pbind (p a b) fun v => pbind (pset x v) fun _ => pret LF.next) Q E σ') q fun a v σ₁ s₁ ra h₁ i₁ j₁ q₁ => (h1 c σ₁ s₁ W h₁).go i₁ q₁ fun b y σ₂ s₂ rb h₂ i₂ j₂ q₂ =>
    (ho c σ₂ s₂ a v b y W h₂ (ra.imm j₂) rb).go i₂ q₂ fun d z σ₃ s₃ rd h₃ i₃ j₃ q₃ => (at_store hk W h₃ rd).go i₃ (K := fun _ σ' => Q .next σ') (E := E) q₃ fun _ _ σ₄ s₄ _ h₄ i₄ j₄ q₄ => ⟨_, σ₄, .next, h₄, i₄, q₄⟩)

-- while
theorem sim_While {t : Expr} {body orelse : List Stmt} {pos : Pos} {mt : PTx Bool} {mb mo : PTx LF} (hf : env.frame = some env.locals) (ht : Sim prog w TS n A env (isTrue t env (eval t env)) REq mt) (hb : Sim prog w TS n A env (execs body env) FlRel mb) (ho : Sim prog w TS n A env (execs orelse env) FlRel mo) :
    Sim prog w TS n A env (exec (.While t body orelse pos) env) FlRel (pwhile mt mb mo) := fun c σ s W h Q E q => by
  have pass := passes (prog := prog) (w := w) (A := A) (h0 := s.heap) (E := E) W hf
  refine wpAny_While ?_
  have key := q (fun σ => ∀ s₁ : Shared, Rel prog w c env σ s₁ → Imm s.heap s₁.heap →
    codeAny (model prog w) A (.whileLoop t body orelse env) (fun r s' => match r with | .ok f => Post prog w c env FlRel s.heap Q f s' | .error e => cameBackBy (model prog w) A env (EPost prog w c env s.heap E) e s') s₁) ?_
  · exact key s h (Imm.refl _)
  · intro σ₁ step s₁ h₁ i₁
    refine codeAny_of_tree ?_
    show wpAny _ A ((whileTurn t body orelse env).onRaise (fun x => do noteFrame x env; theTreesLotGoes x)) _ _ s₁
    refine wpAny_noted ?_
    simp only [whileTurn]
    refine wpAny_bind (wpAny_mono ((ht c σ₁ s₁ W h₁).go i₁ step fun z x σ₂ s₂ rz h₂ i₂ j₂ q₂ => ?_) (fun _ _ x => x) pass)
    cases show z = x from rz
    cases z with
    | true =>
      simp only [if_true] at q₂ ⊢
      refine wpAny_bind (wpAny_mono ((hb c σ₂ s₂ W h₂).go i₂ q₂ fun f v σ₃ s₃ rf h₃ i₃ j₃ q₃ => ?_) (fun _ _ x => x) pass)
      cases rf with
      | next => exact wpAny_pure ⟨rfl, q₃ s₃ h₃ i₃⟩
      | brk => exact wpAny_pure ⟨_, σ₃, .next, h₃, i₃, q₃⟩
      | cont => exact wpAny_pure ⟨rfl, q₃ s₃ h₃ i₃⟩
      | ret r => exact wpAny_pure ⟨_, σ₃, .ret r, h₃, i₃, q₃⟩
    | false =>
      simp only [Bool.false_eq_true, if_false] at q₂ ⊢
      exact wpAny_bind (wpAny_mono ((ho c σ₂ s₂ W h₂).fin i₂ q₂) (fun _ _ p => wpAny_pure p) pass)
end
end Mine
end
noncomputable section
open PySem PySem.W PyProof.Rows PySem.Calls
set_option Elab.async false
set_option linter.unusedVariables false
namespace Mine

def padd : LV → LV → PTx LV
  | .int i, .int j => pret (.int (i + j))
  | _, _ => pfail
def psub : LV → LV → PTx LV
  | .int i, .int j => pret (.int (i - j))
  | _, _ => pfail
def pmul : LV → LV → PTx LV
  | .int i, .int j => fun Q _ σ => j.natAbs < 2 ^ 60 ∧ Q (.int (i * j)) σ
  | _, _ => pfail
def pdiv : LV → LV → PTx LV
  | .int i, .int j => fun Q _ σ => (j ≠ 0 ∧ j.natAbs < 2 ^ 20) ∧ Q (.int (i.fdiv j)) σ
  | _, _ => pfail
def pmod : LV → LV → PTx LV
  | .int i, .int j => fun Q _ σ => j ≠ 0 ∧ Q (.int (i.fmod j)) σ
  | _, _ => pfail
def ppow : LV → LV → PTx LV
  | .int i, .int j => fun Q _ σ => (0 ≤ j ∧ j ≤ 1000 ∧ i.natAbs ≤ 16) ∧ Q (.int (i ^ j.toNat)) σ
  | _, _ => pfail
def pshr : LV → LV → PTx LV
  | .int i, .int j => fun Q _ σ => 0 ≤ j ∧ Q (.int (i.fdiv (2 ^ j.toNat))) σ
  | _, _ => pfail
def por : LV → LV → PTx LV
  | .int i, .int j => pret (.int (Builtin.bitOr i j))
  | _, _ => pfail
def pneg : LV → PTx LV
  | .int i => pret (.int (-i))
  | _ => pfail
def pcat : LV → LV → PTx LV
  | .ref a, .ref b => fun Q _ σ => ∃ xs ys, σ.heap a = some (.list xs) ∧ σ.heap b = some (.list ys) ∧ xs.length + ys.length ≤ cap ∧ ∀ d, σ.heap d = none → Q (.ref d) (σ.put d (.list (xs ++ ys)))
  | _, _ => pfail
def pltT (as bs : List LV) : PTx Bool := fun Q _ σ => ∃ i j k l : Int, as = [.int i, .int j] ∧ bs = [.int k, .int l] ∧ Q (decide (i < k ∨ (i = k ∧ j < l))) σ
def plt : LV → LV → PTx Bool
  | .int i, .int j => pret (decide (i < j))
  | .tup as, .tup bs => pltT as bs
  | _, _ => pfail
def pgt : LV → LV → PTx Bool
  | .int i, .int j => pret (decide (j < i))
  | _, _ => pfail
def pge : LV → LV → PTx Bool
  | .int i, .int j => pret (decide (j ≤ i))
  | _, _ => pfail
def peq : LV → LV → PTx Bool
  | .int i, .int j => pret (i == j)
  | _, _ => pfail
def pne : LV → LV → PTx Bool
  | .int i, .int j => pret (i != j)
  | _, _ => pfail
/-- x is None -/
def pisNone : LV → LV → PTx Bool
  | .none, .none => pret true
  | .ref _, .none => pret false
  | _, _ => pfail
def pisNotNone : LV → LV → PTx Bool
  | .none, .none => pret false
  | .ref _, .none => pret true
  | _, _ => pfail
def ptruth : LV → PTx Bool
  | .none => pret false
  | .bool b => pret b
  | .int i => pret (i != 0)
  | .ref a => fun Q _ σ => ∃ xs, σ.heap a = some (.list xs) ∧ Q (!xs.isEmpty) σ
  | _ => pfail

theorem sub_tuple : isSubtype (.type "tuple") (.type "tuple") = pure true := by rw [isSubtype_type]; kernel_rfl

section
variable {prog : Program} {w : World} {TS : TopS} {c : Cx} {A : Around} {env : Env} {σ : LS} {s : Shared} {n : Nat}

theorem VRel.int_inv {h : Heap} {i : Int} {v : Value} (r : VRel h (.int i) v) : ∃ t, v = .int i t := by cases r; exact ⟨_, rfl⟩
theorem VRel.ref_inv {h : Heap} {a : Nat} {v : Value} (r : VRel h (.ref a) v) : v = .ref a := by cases r; rfl
theorem VRel.none_inv {h : Heap} {v : Value} (r : VRel h .none v) : v = .none := by cases r; rfl
theorem VRel.bool_inv {h : Heap} {b : Bool} {v : Value} (r : VRel h (.bool b) v) : v = .bool b := by cases r; rfl
theorem VRel.tup_inv {h : Heap} {vs : List LV} {v : Value} (r : VRel h (.tup vs) v) : ∃ t items n, v = .ref t ∧ h.get? t = some (tupObj items n) ∧ VRels h vs items := by
  cases r with
  | tup e r => exact ⟨_, _, _, rfl, e, r⟩


theorem sim_add : Sim2 prog w TS n A env (binaryOp .Add) VRel padd := fun c σ s a x b y W h ra rb Q E q => by
  unfold padd at q; split at q
  · obtain ⟨t, rfl⟩ := ra.int_inv; obtain ⟨u, rfl⟩ := rb.int_inv
    exact add_int ⟨_, σ, .int _ _, h.toks _, Imm.refl _, q⟩
  · exact q.elim
theorem sim_iadd : Sim2 prog w TS n A env (inplaceOp .Add) VRel padd := fun c σ s a x b y W h ra rb Q E q => by
  unfold padd at q; split at q
  · obtain ⟨t, rfl⟩ := ra.int_inv; obtain ⟨u, rfl⟩ := rb.int_inv
    exact iadd_int ⟨_, σ, .int _ _, h.toks _, Imm.refl _, q⟩
  · exact q.elim
theorem sim_sub : Sim2 prog w TS n A env (binaryOp .Sub) VRel psub := fun c σ s a x b y W h ra rb Q E q => by
  unfold psub at q; split at q
  · obtain ⟨t, rfl⟩ := ra.int_inv; obtain ⟨u, rfl⟩ := rb.int_inv
    exact sub_int' ⟨_, σ, .int _ _, h.toks _, Imm.refl _, q⟩
  · exact q.elim
theorem sim_isub : Sim2 prog w TS n A env (inplaceOp .Sub) VRel psub := fun c σ s a x b y W h ra rb Q E q => by
  unfold psub at q; split at q
  · obtain ⟨t, rfl⟩ := ra.int_inv; obtain ⟨u, rfl⟩ := rb.int_inv
    exact isub_int ⟨_, σ, .int _ _, h.toks _, Imm.refl _, q⟩
  · exact q.elim
theorem bits_small {j : Int} (h : j.natAbs < 2 ^ 60) : Builtin.Int.intBits j ≤ 64 := by
  unfold Builtin.Int.intBits
  split
  · omega
  · by_cases hz : j.natAbs = 0
    · rw [hz]; simp
    · have := (Nat.log2_lt hz).mpr h
      omega
theorem sim_mul : Sim2 prog w TS n A env (binaryOp .Mult) VRel pmul := fun c σ s a x b y W h ra rb Q E q => by
  unfold pmul at q; split at q
  · obtain ⟨t, rfl⟩ := ra.int_inv; obtain ⟨u, rfl⟩ := rb.int_inv
    exact mul_int ⟨_, σ, .int _ _, h.toks _, Imm.refl _, q.2⟩ (.of_right (bits_small q.1))
  · exact q.elim
theorem sim_div : Sim2 prog w TS n A env (binaryOp .FloorDiv) VRel pdiv := fun c σ s a x b y W h ra rb Q E q => by
  unfold pdiv at q; split at q
  · obtain ⟨t, rfl⟩ := ra.int_inv; obtain ⟨u, rfl⟩ := rb.int_inv
    obtain ⟨⟨q1, q2⟩, q⟩ := q
    refine floordiv_int q1 ⟨_, σ, .int _ _, h.toks _, Imm.refl _, q⟩ (.inl (PyProof.noPylong_small ?_))
    omega
  · exact q.elim
theorem sim_mod : Sim2 prog w TS n A env (binaryOp .Mod) VRel pmod := fun c σ s a x b y W h ra rb Q E q => by
  unfold pmod at q; split at q
  · obtain ⟨t, rfl⟩ := ra.int_inv; obtain ⟨u, rfl⟩ := rb.int_inv
    exact mod_int q.1 ⟨_, σ, .int _ _, h.toks _, Imm.refl _, q.2⟩
  · exact q.elim
theorem sim_pow : Sim2 prog w TS n A env (binaryOp .Pow) VRel ppow := fun c σ s a x b y W h ra rb Q E q => by
  unfold ppow at q; split at q
  · obtain ⟨t, rfl⟩ := ra.int_inv; obtain ⟨u, rfl⟩ := rb.int_inv
    obtain ⟨⟨q1, q2, q3⟩, q⟩ := q
    refine pow_int q1 ?_ ⟨_, σ, .int _ _, h.toks _, Imm.refl _, q⟩
    rename_i i j
    have h1 : Builtin.Int.intBits i ≤ 64 := bits_small (Nat.lt_of_le_of_lt q3 (by decide))
    have h2 : ((Builtin.Int.intBits i : Nat) : Int) ≤ 64 := by exact_mod_cast h1
    calc _ ≤ (64 : Int) * 1000 := Int.mul_le_mul h2 q2 q1 (by decide)
      _ ≤ 2 ^ 27 := by decide
  · exact q.elim
theorem sim_shr : Sim2 prog w TS n A env (binaryOp .RShift) VRel pshr := fun c σ s a x b y W h ra rb Q E q => by
  unfold pshr at q; split at q
  · obtain ⟨t, rfl⟩ := ra.int_inv; obtain ⟨u, rfl⟩ := rb.int_inv
    exact rshift_int q.1 ⟨_, σ, .int _ _, h.toks _, Imm.refl _, q.2⟩
  · exact q.elim
theorem sim_or : Sim2 prog w TS n A env (binaryOp .BitOr) VRel por := fun c σ s a x b y W h ra rb Q E q => by
  unfold por at q; split at q
  · obtain ⟨t, rfl⟩ := ra.int_inv; obtain ⟨u, rfl⟩ := rb.int_inv
    exact or_int ⟨_, σ, .int _ _, h.toks _, Imm.refl _, q⟩
  · exact q.elim
theorem sim_neg : Sim1 prog w TS n A env (unaryOp .USub) VRel pneg := fun c σ s a x W h ra Q E q => by
  unfold pneg at q; split at q
  · obtain ⟨t, rfl⟩ := ra.int_inv
    exact neg_int ⟨_, σ, .int _ _, h.toks _, Imm.refl _, q⟩
  · exact q.elim
theorem sim_gt : Sim2 prog w TS n A env (compareOp .Gt) RB pgt := fun c σ s a x b y W h ra rb Q E q => by
  unfold pgt at q; split at q
  · obtain ⟨t, rfl⟩ := ra.int_inv; obtain ⟨u, rfl⟩ := rb.int_inv
    exact gt_int ⟨_, σ, rfl, h, Imm.refl _, q⟩
  · exact q.elim
theorem sim_ge : Sim2 prog w TS n A env (compareOp .GtE) RB pge := fun c σ s a x b y W h ra rb Q E q => by
  unfold pge at q; split at q
  · obtain ⟨t, rfl⟩ := ra.int_inv; obtain ⟨u, rfl⟩ := rb.int_inv
    exact ge_int ⟨_, σ, rfl, h, Imm.refl _, q⟩
  · exact q.elim
theorem sim_eq : Sim2 prog w TS n A env (compareOp .Eq) RB peq := fun c σ s a x b y W h ra rb Q E q => by
  unfold peq at q; split at q
  · obtain ⟨t, rfl⟩ := ra.int_inv; obtain ⟨u, rfl⟩ := rb.int_inv
    exact eq_int ⟨_, σ, rfl, h, Imm.refl _, q⟩
  · exact q.elim
theorem sim_ne : Sim2 prog w TS n A env (compareOp .NotEq) RB pne := fun c σ s a x b y W h ra rb Q E q => by
  unfold pne at q; split at q
  · obtain ⟨t, rfl⟩ := ra.int_inv; obtain ⟨u, rfl⟩ := rb.int_inv
    exact ne_int ⟨_, σ, rfl, h, Imm.refl _, q⟩
  · exact q.elim

theorem tuple_lt_run {a b : Addr} {i j k l : Int} {t1 t2 t3 t4 : Tok} {n1 n2 : Nat} {P : Fin → Shared → Prop} {E : Value → Shared → Prop}
    (ha : s.heap.get? a = some (tupObj [.int i t1, .int j t2] n1)) (hb : s.heap.get? b = some (tupObj [.int k t3, .int l t4] n2))
    (h : P (.done (.ret (.bool (decide (i < k ∨ (i = k ∧ j < l)))))) s) : wpAny (model prog w) A (Builtin.«tuple.__lt__» ⟨[.ref a, .ref b], []⟩) P E s := by
  obtain ⟨hp, g, d, tk, os⟩ := s
  unfold Builtin.«tuple.__lt__»
  wp_walk
  refine wpAny_of_eq sub_tuple ?_
  simp only [Bool.not_true, Bool.false_eq_true, if_false]
  refine wpAny_bind (wpAny_tupleItemsOf ha rfl ?_)
  refine wpAny_bind (wpAny_tupleItemsOf hb rfl ?_)
  simp only [List.zip_cons_cons, List.zip_nil_right, List.forIn_cons, List.forIn_nil]
  refine wpAny_bind (wpAny_bind (wpAny_bind (wpAny_eqBool_int ?_)))
  by_cases h1 : i = k
  · subst h1
    simp only [beq_self_eq_true, Bool.not_true, Bool.false_eq_true, if_false]
    refine wpAny_pure ?_
    refine wpAny_bind (wpAny_bind (wpAny_eqBool_int ?_))
    by_cases h2 : j = l
    · subst h2
      simp only [beq_self_eq_true, Bool.not_true, Bool.false_eq_true, if_false]
      refine wpAny_pure (wpAny_pure ?_)
      simp at h
      exact wpAny_pure h
    · simp only [show (j == l) = false from by simpa using h2, Bool.not_false, if_true]
      refine wpAny_bind (wpAny_rule (wpAny_bind (wpAny_lt_int (wpAny_bind (wpAny_pure (wpAny_pure (wpAny_pure ?_)))))))
      simp at h
      exact wpAny_pure h
  · simp only [show (i == k) = false from by simpa using h1, Bool.not_false, if_true]
    refine wpAny_bind (wpAny_rule (wpAny_bind (wpAny_lt_int (wpAny_bind (wpAny_pure (wpAny_pure (wpAny_pure ?_)))))))
    simp [h1] at h
    exact wpAny_pure h

theorem pair_inv {h : Heap} {i j : Int} {v : Value} (r : VRel h (.tup [.int i, .int j]) v) : ∃ t t1 t2 n, v = .ref t ∧ h.get? t = some (tupObj [.int i t1, .int j t2] n) := by
  obtain ⟨t, items, n, rfl, e, r⟩ := r.tup_inv
  cases r with
  | cons x r => cases r with
    | cons y r => cases r with
      | nil =>
        obtain ⟨t1, rfl⟩ := x.int_inv; obtain ⟨t2, rfl⟩ := y.int_inv
        exact ⟨t, t1, t2, n, rfl, e⟩

theorem sim_lt : Sim2 prog w TS n A env (compareOp .Lt) RB plt := fun c σ s a x b y W h ra rb Q E q => by
  unfold plt at q; split at q
  · obtain ⟨t, rfl⟩ := ra.int_inv; obtain ⟨u, rfl⟩ := rb.int_inv
    exact lt_int ⟨_, σ, rfl, h, Imm.refl _, q⟩
  · obtain ⟨_, _, _, _, rfl, rfl, q⟩ := q
    obtain ⟨t, t1, t2, n1, rfl, e1⟩ := pair_inv ra
    obtain ⟨u, t3, t4, n2, rfl, e2⟩ := pair_inv rb
    refine cmp_ofLt (wpAny_richCompare_same_room (T := "tuple") ⟨_, e1, rfl⟩ ⟨_, e2, rfl⟩ F.slot_tuple_lt (wpAny_call_entry F.slot_tuple_lt ⟨_, e1, rfl⟩ F.entry_tuple_lt (tuple_lt_run e1 e2 ⟨_, rfl, by simp, ?_⟩) (F.args_tuple_lt_2 _ _)) ?_)
    · exact ⟨_, σ, rfl, h, Imm.refl _, q⟩
    · exact Nat.lt_of_le_of_lt (Nat.le_add_right _ _) W.units
  · exact q.elim
theorem sim_isNone : Sim2 prog w TS n A env (compareOp .Is) RB pisNone := fun c σ s a x b y W h ra rb Q E q => by
  unfold pisNone at q; split at q
  · cases ra.none_inv; cases rb.none_inv
    exact wpAny_is_self rfl ⟨_, σ, rfl, h, Imm.refl _, q⟩
  · cases ra.ref_inv; cases rb.none_inv
    exact wpAny_is_other rfl (by simp) ⟨_, σ, rfl, h, Imm.refl _, q⟩
  · exact q.elim
theorem sim_isNotNone : Sim2 prog w TS n A env (compareOp .IsNot) RB pisNotNone := fun c σ s a x b y W h ra rb Q E q => by
  unfold pisNotNone at q; split at q
  · cases ra.none_inv; cases rb.none_inv
    exact wpAny_isNot_self rfl ⟨_, σ, rfl, h, Imm.refl _, q⟩
  · cases ra.ref_inv; cases rb.none_inv
    exact wpAny_isNot_other rfl (by simp) ⟨_, σ, rfl, h, Imm.refl _, q⟩
  · exact q.elim

theorem Rel.list_at (h : Rel prog w c env σ s) {a : Nat} {xs : List LV} (e : σ.heap a = some (.list xs)) : xs.length ≤ cap ∧ ∃ items n, IsL s.heap a items n ∧ VRels s.heap xs items.toList := h.obj a _ e

theorem sim_cat : Sim2 prog w TS n A env (binaryOp .Add) VRel pcat := fun c σ s a x b y W h ra rb Q E q => by
  unfold pcat at q; split at q
  · obtain ⟨xs, ys, e1, e2, hz, q⟩ := q
    cases ra.ref_inv; cases rb.ref_inv
    obtain ⟨_, it1, n1, l1, r1⟩ := h.list_at e1
    obtain ⟨_, it2, n2, l2, r2⟩ := h.list_at e2
    have s1 := r1.length; have s2 := r2.length
    simp only [Array.length_toList] at s1 s2
    have hc := cap_le
    refine P.add_list l1 l2 ⟨_, _, .ref _, h.alloc (tk := s.toks) (o := .list (xs ++ ys)) (fun b o e => Heap.get?_push_of_some _ e) ⟨?_, _, 0, Heap.get?_push_size _ rfl, ?_⟩, Imm.of_keeps fun b o e => Heap.get?_push_of_some _ e, q _ h.fresh_obj⟩ (by omega)
    · simpa using hz
    · have im : Imm s.heap _ := Imm.of_keeps fun b o e => Heap.get?_push_of_some (h := s.heap) { cls := .type "list", data := .seq (it1 ++ it2) } e
      simpa using (r1.append r2).imm im
  · exact q.elim

theorem sim_truth : Sim1 prog w TS n A env truthy REq ptruth := fun c σ s a x W h ra Q E q => by
  unfold ptruth at q; split at q
  · cases ra.none_inv
    exact wpAny_pure ⟨_, σ, rfl, h, Imm.refl _, q⟩
  · cases ra.bool_inv
    exact wpAny_truthy_bool ⟨_, σ, rfl, h, Imm.refl _, q⟩
  · obtain ⟨t, rfl⟩ := ra.int_inv
    exact truthy_int ⟨_, σ, rfl, h, Imm.refl _, q⟩
  · obtain ⟨xs, e1, q⟩ := q
    cases ra.ref_inv
    obtain ⟨hz, it1, n1, l1, r1⟩ := h.list_at e1
    have s1 := r1.length
    simp only [Array.length_toList] at s1
    refine wpAny_truthy_list l1.isList ?_ ⟨_, σ, ?_, h.toks _, Imm.refl _, q⟩
    · have : cap < 2 ^ 62 := by decide
      omega
    · show (!xs.isEmpty) = _
      congr 1
      rw [Bool.eq_iff_iff]; simp only [List.isEmpty_iff_length_eq_zero, Array.isEmpty_iff_size_eq_zero]; omega
  · exact q.elim
end
end Mine
end
noncomputable section
open PySem PySem.W PyProof.Rows PySem.Calls
set_option Elab.async false
set_option linter.unusedVariables false
namespace Mine

/-- an item of a list that is there -/
def plget : LV → LV → PTx LV
  | .ref a, .int k => fun Q _ σ => ∃ xs v, σ.heap a = some (.list xs) ∧ 0 ≤ k ∧ xs[k.toNat]? = some v ∧ Q v σ
  | _, _ => pfail
/-- the last item of a list -/
def pllast : LV → LV → PTx LV
  | .ref a, .int k => fun Q _ σ => k = -1 ∧ ∃ xs v, σ.heap a = some (.list xs) ∧ xs.getLast? = some v ∧ Q v σ
  | _, _ => pfail
/-- an item of a list, or an IndexError -/
def plitem : LV → LV → PTx LV
  | .ref a, .int k => fun Q E σ => ∃ xs, σ.heap a = some (.list xs) ∧ 0 ≤ k ∧ k < 2 ^ 60 ∧ (match xs[k.toNat]? with | some v => Q v σ | none => E ⟨"IndexError", false⟩ σ)
  | _, _ => pfail
def ptget : LV → LV → PTx LV
  | .tup vs, .int k => fun Q _ σ => ∃ v, 0 ≤ k ∧ vs.length ≤ 1000 ∧ vs[k.toNat]? = some v ∧ Q v σ
  | _, _ => pfail
def pdget : LV → LV → PTx LV
  | .ref a, .int k => fun Q _ σ => ∃ es ep v, σ.heap a = some (.dict es ep) ∧ es.lookup k = some v ∧ Q v σ
  | _, _ => pfail
def plset : LV → LV → LV → PTx Unit
  | .ref a, .int k, v => fun Q _ σ => ∃ xs, σ.heap a = some (.list xs) ∧ 0 ≤ k ∧ k < xs.length ∧ Q () (σ.put a (.list (xs.set k.toNat v)))
  | _, _, _ => pfail
def dput (es : List (Int × LV)) (k : Int) (v : LV) : List (Int × LV) := if es.any (fun kv => kv.1 = k) then es.map (fun kv => if kv.1 = k then (kv.1, v) else kv) else es ++ [(k, v)]
def ddel (es : List (Int × LV)) (k : Int) : List (Int × LV) := es.filter fun kv => decide (kv.1 ≠ k)
def pdset : LV → LV → LV → PTx Unit
  | .ref a, .int k, v => fun Q _ σ => ∃ es ep, σ.heap a = some (.dict es ep) ∧ es.length + 1 ≤ cap ∧ ∀ ep', Q () (σ.put a (.dict (dput es k v) ep'))
  | _, _, _ => pfail
def pddel : LV → LV → PTx Unit
  | .ref a, .int k => fun Q _ σ => ∃ es ep, σ.heap a = some (.dict es ep) ∧ (es.lookup k).isSome = true ∧ ∀ ep', Q () (σ.put a (.dict (ddel es k) ep'))
  | _, _ => pfail

theorem ERel.lookup {h : Heap} {es : List (Int × LV)} {kvs : List (Int × Value)} (r : ERel h es kvs) (k : Int) : OV h (es.lookup k) (valueAt kvs k) := by
  induction r with
  | nil => exact True.intro
  | @cons k' a v es kvs x r ih =>
    unfold valueAt at ih ⊢
    rw [List.lookup_cons, List.find?_cons]
    by_cases q : k = k'
    · subst q; simpa [OV] using x
    · rw [show (k == k') = false from by simpa using q, show decide (k' = k) = false from by simpa using Ne.symm q]
      exact ih
theorem ERel.length {h : Heap} {es : List (Int × LV)} {kvs : List (Int × Value)} (r : ERel h es kvs) : es.length = kvs.length := by
  induction r with
  | nil => rfl
  | cons x _ ih => exact congrArg (· + 1) ih
theorem ERel.any {h : Heap} (k : Int) {es : List (Int × LV)} {kvs : List (Int × Value)} (r : ERel h es kvs) : es.any (fun kv => kv.1 = k) = kvs.any (fun kv => kv.1 = k) := by
  induction r with
  | nil => rfl
  | @cons k' _ _ _ _ x _ ih => exact congrArg (decide (k' = k) || ·) ih
theorem ERel.append {h : Heap} {es fs : List (Int × LV)} {kvs gs : List (Int × Value)} (r : ERel h es kvs) (q : ERel h fs gs) : ERel h (es ++ fs) (kvs ++ gs) := by
  induction r with
  | nil => exact q
  | cons x _ ih => exact .cons x ih
theorem ERel.mapSet {h : Heap} {k : Int} {a : LV} {v : Value} (y : VRel h a v) {es : List (Int × LV)} {kvs : List (Int × Value)} (r : ERel h es kvs) :
    ERel h (es.map (fun kv => if kv.1 = k then (kv.1, a) else kv)) (kvs.map (fun kv => if kv.1 = k then (kv.1, v) else kv)) := by
  induction r with
  | nil => exact .nil
  | @cons k' _ _ _ _ x _ ih =>
    rw [List.map_cons, List.map_cons]
    by_cases q : k' = k
    · rw [if_pos q, if_pos q]; exact .cons y ih
    · rw [if_neg q, if_neg q]; exact .cons x ih
theorem ERel.put {h : Heap} {k : Int} {a : LV} {v : Value} (y : VRel h a v) {es : List (Int × LV)} {kvs : List (Int × Value)} (r : ERel h es kvs) : ERel h (dput es k a) (stored kvs k v) := by
  unfold dput stored
  rw [r.any k]
  split
  · exact r.mapSet y
  · exact r.append (.cons y .nil)
theorem ERel.del {h : Heap} (k : Int) {es : List (Int × LV)} {kvs : List (Int × Value)} (r : ERel h es kvs) : ERel h (ddel es k) (without kvs k) := by
  induction r with
  | nil => exact .nil
  | @cons k' _ _ _ _ x _ ih =>
    unfold ddel without at ih ⊢
    by_cases q : k' = k
    · rw [List.filter_cons_of_neg (by simp [q]), List.filter_cons_of_neg (by simp [q])]; exact ih
    · rw [List.filter_cons_of_pos (by simp [q]), List.filter_cons_of_pos (by simp [q])]; exact .cons x ih
theorem dput_length (es : List (Int × LV)) (k : Int) (v : LV) : (dput es k v).length ≤ es.length + 1 := by
  unfold dput; split <;> simp
theorem ddel_length (es : List (Int × LV)) (k : Int) : (ddel es k).length ≤ es.length := by unfold ddel; exact List.length_filter_le ..

section
variable {prog : Program} {w : World} {TS : TopS} {c : Cx} {A : Around} {env : Env} {σ : LS} {s : Shared} {n : Nat}

theorem VRels.getA {h : Heap} {xs : List LV} {items : Array Value} (r : VRels h xs items.toList) {i : Nat} {a : LV} (e : xs[i]? = some a) : ∃ v, items[i]? = some v ∧ VRel h a v := by
  obtain ⟨v, h1, h2⟩ := r.get e
  exact ⟨v, by simpa using h1, h2⟩
theorem VRels.sizeA {h : Heap} {xs : List LV} {items : Array Value} (r : VRels h xs items.toList) : items.size = xs.length := by
  have := r.length; simpa using this.symm
theorem cap_big : (cap : Int) < 2 ^ 60 := by decide

/-- the tail of a subscript -/
def Tail2 (prog : Program) (w : World) (TS : TopS) (n : Nat) (A : Around) (env : Env) (value slice : Expr) (p : LV → LV → PTx LV) : Prop := Sim2 prog w TS n A env (subscriptTail value slice) VRel p
theorem sim_Subscript {value slice : Expr} {pos : Pos} {mo mi : PTx LV} {p : LV → LV → PTx LV} (ho : Sim prog w TS n A env (eval value env) VRel mo) (hi : Sim prog w TS n A env (eval slice env) VRel mi) (hp : Tail2 prog w TS n A env value slice p) :
    Sim prog w TS n A env (eval (.Subscript value slice pos) env) VRel (pbind mo fun a => pbind mi fun b => p a b) := fun c σ s W h Q E q =>
  Subscript_ ((ho c σ s W h).go (Imm.refl _) q fun a x σ₁ s₁ ra h₁ i₁ j₁ q₁ => (hi c σ₁ s₁ W h₁).go i₁ q₁ fun b y σ₂ s₂ rb h₂ i₂ j₂ q₂ => (hp c σ₂ s₂ a x b y W h₂ (ra.imm j₂) rb).fin i₂ q₂)

theorem tail_plget {value slice : Expr} (hs : ∀ o i, subscripted slice false o i = operate [o, i] (getItem o i)) : Tail2 prog w TS n A env value slice plget := fun c σ s a x b y W h ra rb Q E q => by
  unfold plget at q; split at q
  · obtain ⟨xs, v, e, h0, hx, q⟩ := q
    cases ra.ref_inv; obtain ⟨t, rfl⟩ := rb.int_inv
    obtain ⟨hz, it, n1, l1, r1⟩ := h.list_at e
    obtain ⟨u, h1, h2⟩ := r1.getA hx
    have hlt := (List.getElem?_eq_some_iff.mp hx).1
    have := cap_big
    exact tail_any l1.isList.typeIs slot_list_getitem.lookup (wpAny_getItem_list l1.isList h0 (by omega) h1 ⟨v, σ, h2, h, Imm.refl _, q⟩) (hs _ _)
  · exact q.elim
theorem tail_pllast {value slice : Expr} (hs : ∀ o i, subscripted slice false o i = operate [o, i] (getItem o i)) : Tail2 prog w TS n A env value slice pllast := fun c σ s a x b y W h ra rb Q E q => by
  unfold pllast at q; split at q
  · obtain ⟨rfl, xs, v, e, hx, q⟩ := q
    cases ra.ref_inv; obtain ⟨t, rfl⟩ := rb.int_inv
    obtain ⟨hz, it, n1, l1, r1⟩ := h.list_at e
    have hsz := r1.sizeA
    rw [List.getLast?_eq_getElem?] at hx
    have hlt := (List.getElem?_eq_some_iff.mp hx).1
    obtain ⟨u, h1, h2⟩ := r1.getA hx
    have e9 : ((-1 : Int) + (it.size : Int)).toNat = xs.length - 1 := by omega
    exact tail_any l1.isList.typeIs slot_list_getitem.lookup (wpAny_getItem_list_neg l1.isList (by decide) (by omega) (by decide) (by rw [e9]; exact h1) ⟨v, σ, h2, h, Imm.refl _, q⟩) (hs _ _)
  · exact q.elim
theorem newExc_at {nm : String} {h' : Heap} {tk : Nat} {e : Addr} (h : Rel prog w c env σ s) (N : Heap.NewExc s.heap h' e nm) (hx : nm = "IndexError" ∨ nm = "StopIteration") :
    ExcAt c env σ h' ⟨nm, false⟩ (.ref e) ∧ Rel prog w c env σ { s with heap := h', toks := tk } ∧ Imm s.heap h' := by
  have k := N.keeps
  have hn := N.new
  obtain ⟨ob, args, e1, e2, e3⟩ := N.there
  refine ⟨⟨e, ob, _, rfl, ⟨e1, e2, hx, e3, ⟨?_, ?_, ?_⟩, by simp, fun _ => rfl⟩, .inl rfl⟩, h.keeps k, Imm.of_keeps k⟩
  · cases q : c.base.get? e with
    | none => rfl
    | some o => have := h.keep _ _ q; rw [hn] at this; cases this
  · cases q : σ.heap e with
    | none => rfl
    | some o => obtain ⟨ob, e', _⟩ := (h.obj _ o q).notImm; rw [hn] at e'; cases e'
  · rintro p hp rfl
    obtain ⟨og, g, _⟩ := h.guard p hp
    rw [hn] at g; cases g
theorem tail_plitem {value slice : Expr} (hh : A.handled = none) (hs : ∀ o i, subscripted slice false o i = operate [o, i] (getItem o i)) : Tail2 prog w TS n A env value slice plitem := fun c σ s a x b y W h ra rb Q E q => by
  unfold plitem at q; split at q
  · obtain ⟨xs, e, h0, hk, q⟩ := q
    cases ra.ref_inv; obtain ⟨t, rfl⟩ := rb.int_inv
    obtain ⟨hz, it, n1, l1, r1⟩ := h.list_at e
    have hsz := r1.sizeA
    split at q
    · rename_i v hx
      obtain ⟨u, h1, h2⟩ := r1.getA hx
      exact tail_any l1.isList.typeIs slot_list_getitem.lookup (wpAny_getItem_list l1.isList h0 (by omega) h1 ⟨v, σ, h2, h, Imm.refl _, q⟩) (hs _ _)
    · rename_i hx
      have hge := List.getElem?_eq_none_iff.mp hx
      refine tail_any l1.isList.typeIs slot_list_getitem.lookup (wpAny_getItem_list_out hh l1.isList (.inr (by omega)) (by omega) (by omega) fun h' tk e N => ?_) (hs _ _)
      obtain ⟨z1, z2, z3⟩ := newExc_at (tk := tk) h N (.inl rfl)
      exact ⟨_, σ, z1, z2, z3, q⟩
  · exact q.elim
theorem tail_ptget {value slice : Expr} (hs : ∀ o i, subscripted slice false o i = operate [o, i] (getItem o i)) : Tail2 prog w TS n A env value slice ptget := fun c σ s a x b y W h ra rb Q E q => by
  unfold ptget at q; split at q
  · rename_i k
    obtain ⟨v, h0, hz, hx, q⟩ := q
    obtain ⟨t, items, n1, rfl, e, r⟩ := ra.tup_inv
    obtain ⟨u, rfl⟩ := rb.int_inv
    obtain ⟨y, h1, h2⟩ := r.get hx
    have hlt := (List.getElem?_eq_some_iff.mp hx).1
    have hl := r.length
    refine item_tupleT (l := items) ⟨_, e, rfl, _, rfl⟩ (by omega) (by omega) (j := k.toNat) ?_ h1 ⟨v, σ, h2, h, Imm.refl _, q⟩ (hs _ _)
    exact seqIndex_of h0 (by omega)
  · exact q.elim
theorem Rel.dict_ep (h : Rel prog w c env σ s) {a ep : Nat} {es : List (Int × LV)} (e : σ.heap a = some (.dict es ep)) : es.length ≤ cap ∧ ∃ kvs, s.heap.DictAt (intKind prog w) a kvs ep ∧ ERel s.heap es kvs := h.obj a _ e
theorem Rel.dict_at (h : Rel prog w c env σ s) {a ep : Nat} {es : List (Int × LV)} (e : σ.heap a = some (.dict es ep)) : es.length ≤ cap ∧ ∃ kvs, s.heap.DictOf (intKind prog w) a kvs ∧ ERel s.heap es kvs := let ⟨hz, kvs, d, r⟩ := h.dict_ep e; ⟨hz, kvs, d.dictOf, r⟩
theorem Rel.not_sysm (W : WF TS n c A env) (h : Rel prog w c env σ s) {a : Nat} {o : LO} (e : σ.heap a = some o) : (a == sysModules) = false := by
  rw [beq_eq_false_iff_ne]
  rintro rfl
  obtain ⟨o', q⟩ := W.top.sysm
  rw [(h.dom _ o e).1] at q; cases q
theorem int_is (k : Int) (t : Tok) : (intKind prog w).is k (.int k t) = true := intKind_is prog w k t
theorem tail_pdget {value slice : Expr} (hs : ∀ o i, subscripted slice false o i = operate [o, i] (getItem o i)) : Tail2 prog w TS n A env value slice pdget := fun c σ s a x b y W h ra rb Q E q => by
  unfold pdget at q; split at q
  · obtain ⟨es, ep, v, e, hx, q⟩ := q
    cases ra.ref_inv; obtain ⟨t, rfl⟩ := rb.int_inv
    obtain ⟨hz, kvs, d1, r1⟩ := h.dict_at e
    obtain ⟨u, h1, h2⟩ := OV.some_left (hx ▸ r1.lookup _)
    exact tail_any d1.typeIs slot_dict_getitem.lookup (wpAny_getItem_of (int_is _ _) d1.mapOf h1 ⟨v, σ, h2, h.toks _, Imm.refl _, q⟩) (hs _ _)
  · exact q.elim

-- stores
def Sim3 (prog : Program) (w : World) (TS : TopS) (n : Nat) (A : Around) (env : Env) (f : Value → Value → Value → Sem Unit) (m : LV → LV → LV → PTx Unit) : Prop :=
  ∀ c σ s a x b y d z, WF TS n c A env → Rel prog w c env σ s → VRel s.heap a x → VRel s.heap b y → VRel s.heap d z → At prog w c A env (f x y z) REq (m a b d) σ s
theorem sim_plset : Sim3 prog w TS n A env setItem plset := fun c σ s a x b y d z W h ra rb rd Q E q => by
  unfold plset at q; split at q
  · rename_i a k
    obtain ⟨xs, e, h0, hk, q⟩ := q
    cases ra.ref_inv; obtain ⟨t, rfl⟩ := rb.int_inv
    obtain ⟨hz, it, n1, l1, r1⟩ := h.list_at e
    have hsz := r1.sizeA
    have := cap_big
    have k := (Heap.SameBut.update s.heap a (Obj.mapSeq (·.setIfInBounds k.toNat z))).extBut
    have im := h.update_imm e k
    refine ki_setAt l1 h0 (by omega) (by omega) ⟨(), _, rfl, h.update (tk := s.toks) (o' := .list _) e k ⟨?_, _, _, l1.update _, ?_⟩, im, q⟩
    · simpa using hz
    · simpa using (r1.set _ rd).imm im
  · exact q.elim
theorem sim_pdset : Sim3 prog w TS n A env setItem pdset := fun c σ s a x b y d z W h ra rb rd Q E q => by
  unfold pdset at q; split at q
  · obtain ⟨es, ep, e, hk, q⟩ := q
    cases ra.ref_inv; obtain ⟨t, rfl⟩ := rb.int_inv
    obtain ⟨hz, kvs, d1, r1⟩ := h.dict_at e
    have hl := r1.length
    have := cap_le
    refine wpAny_setItem_pairs (int_is _ _) d1 (fun h' hd hs => ?_) (by omega)
    have im := h.update_imm e hs.extBut
    obtain ⟨ep', hd'⟩ := hd.dictAt
    exact ⟨(), _, rfl, h.update (o' := .dict _ ep') e hs.extBut ⟨Nat.le_trans (dput_length ..) hk, _, hd', (r1.put rd).imm im⟩, im, q ep'⟩
  · exact q.elim
theorem sim_pddel : Sim2 prog w TS n A env delItem REq pddel := fun c σ s a x b y W h ra rb Q E q => by
  unfold pddel at q; split at q
  · obtain ⟨es, ep, e, hk, q⟩ := q
    cases ra.ref_inv; obtain ⟨t, rfl⟩ := rb.int_inv
    obtain ⟨hz, kvs, d1, r1⟩ := h.dict_at e
    have hl := r1.length
    have := cap_le
    unfold delItem
    try with_reducible refine wpAny_holding ?_
    refine wpAny_bind (wpAny_sequenceKey d1.typeIs (by decide) ?_)
    refine wpAny_bind (wpAny_callSpecial?_slot (name := Str.ofString "__delitem__") d1.typeIs F.slot_dict_delitem
      (call_meetsIn F.slot_dict_delitem d1.typeIs F.entry_dict_delitem (F.args_dict_delitem_2 _ _) (meets_dict_delitem_pairs (intKind prog w) _ (int_is _ _)) ⟨kvs, d1, by omega, ?_, fun h' hmm hs => ?_⟩))
    · cases q9 : es.lookup _ with
      | none => rw [q9] at hk; cases hk
      | some v => obtain ⟨u, h1, h2⟩ := OV.some_left (q9 ▸ r1.lookup _); rw [h1]; rfl
    · have im := h.update_imm e hs.extBut
      obtain ⟨ep', hd'⟩ := hmm.dictAt
      exact wpAny_pure ⟨(), _, rfl, h.update (o' := .dict _ ep') e hs.extBut ⟨Nat.le_trans (ddel_length ..) hz, _, hd', (r1.del _).imm im⟩, im, q ep'⟩
  · exact q.elim
end
end Mine
end
noncomputable section
open PySem PySem.W PyProof.Rows PySem.Calls PySem.SeqAt
set_option Elab.async false
set_option linter.unusedVariables false
namespace Mine

def pseqL : List (LV → PTx Unit) → List LV → PTx Unit
  | [], [] => pret ()
  | t :: ts, v :: vs => pbind (t v) fun _ => pseqL ts vs
  | _, _ => pfail
def punpack (ts : List (LV → PTx Unit)) : LV → PTx Unit
  | .tup vs => pseqL ts vs
  | _ => pfail
/-- x in list of ints -/
def plin : LV → LV → PTx Bool
  | .int k, .ref a => fun Q _ σ => ∃ is : List Int, σ.heap a = some (.list (is.map .int)) ∧ Q (is.contains k) σ
  | _, _ => pfail
def plnotin : LV → LV → PTx Bool
  | .int k, .ref a => fun Q _ σ => ∃ is : List Int, σ.heap a = some (.list (is.map .int)) ∧ Q (!is.contains k) σ
  | _, _ => pfail
def pdin : LV → LV → PTx Bool
  | .int k, .ref a => fun Q _ σ => ∃ es ep, σ.heap a = some (.dict es ep) ∧ Q (es.lookup k).isSome σ
  | _, _ => pfail
def pdnotin : LV → LV → PTx Bool
  | .int k, .ref a => fun Q _ σ => ∃ es ep, σ.heap a = some (.dict es ep) ∧ Q (!(es.lookup k).isSome) σ
  | _, _ => pfail
def psin : LV → LV → PTx Bool
  | .int k, .ref a => fun Q _ σ => ∃ S n, σ.heap a = some (.set S n) ∧ Q (S k) σ
  | _, _ => pfail
def plist (vs : List LV) : PTx LV := fun Q _ σ => vs.length ≤ cap ∧ ∀ a, σ.heap a = none → Q (.ref a) (σ.put a (.list vs))
def ptuple (vs : List LV) : PTx LV := fun Q _ σ => vs.length ≤ cap ∧ Q (.tup vs) σ
def pdict0 : PTx LV := fun Q _ σ => ∀ a, σ.heap a = none → Q (.ref a) (σ.put a (.dict [] 0))
/-- two lists of ints compared -/
def pleq : LV → LV → PTx Bool
  | .ref a, .ref b => fun Q _ σ => ∃ is js : List Int, σ.heap a = some (.list (is.map .int)) ∧ σ.heap b = some (.list (js.map .int)) ∧ Q (is == js) σ
  | _, _ => pfail
/-- a list of anything compared with the empty list -/
def pleq0 : LV → LV → PTx Bool
  | .ref a, .ref b => fun Q _ σ => ∃ xs, σ.heap a = some (.list xs) ∧ σ.heap b = some (.list []) ∧ Q xs.isEmpty σ
  | _, _ => pfail
def pnot (m : LV → LV → PTx Bool) (a b : LV) : PTx Bool := fun Q E σ => m a b (fun z σ' => Q (!z) σ') E σ
/-- xs[i:], xs[:j] -/
def pfrom : LV → LV → PTx LV
  | .ref a, .int k => fun Q _ σ => ∃ xs, σ.heap a = some (.list xs) ∧ 0 ≤ k ∧ ∀ d, σ.heap d = none → Q (.ref d) (σ.put d (.list (xs.drop k.toNat)))
  | _, _ => pfail
def pupto : LV → LV → PTx LV
  | .ref a, .int k => fun Q _ σ => ∃ xs, σ.heap a = some (.list xs) ∧ 0 ≤ k ∧ ∀ d, σ.heap d = none → Q (.ref d) (σ.put d (.list (xs.take k.toNat)))
  | _, _ => pfail

section
variable {prog : Program} {w : World} {TS : TopS} {c : Cx} {A : Around} {env : Env} {σ : LS} {s : Shared} {n : Nat}

-- targets
theorem sim_tName {x : String} {pos : Pos} (hk : StoreOk env x) : Sim1 prog w TS n A env (assign (.Name (Str.ofString x) pos) env) REq (pset x) := fun c σ s a v W h ra Q E q =>
  wpAny_assign_Name ((at_store hk W h ra).fin (Imm.refl _) q)
theorem sim_tSub {o i : Expr} {pos : Pos} {mo mi : PTx LV} {p : LV → LV → LV → PTx Unit} (ho : Sim prog w TS n A env (eval o env) VRel mo) (hi : Sim prog w TS n A env (eval i env) VRel mi) (hp : Sim3 prog w TS n A env setItem p) :
    Sim1 prog w TS n A env (assign (.Subscript o i pos) env) REq (fun v => pbind mo fun a => pbind mi fun b => p a b v) := fun c σ s a v W h ra Q E q => by
  rw [arm_assign_Subscript]
  refine wpAny_bind (wpAny_holding ((ho c σ s W h).go (Imm.refl _) q fun b x σ₁ s₁ rb h₁ i₁ j₁ q₁ => ?_))
  refine wpAny_bind (wpAny_holding ((hi c σ₁ s₁ W h₁).go i₁ q₁ fun d y σ₂ s₂ rd h₂ i₂ j₂ q₂ => ?_))
  refine wpAny_bind (wpAny_standAt (wpAny_bind (wpAny_holding ((hp c σ₂ s₂ b x d y a v W h₂ (rb.imm j₂) rd ((ra.imm j₁).imm j₂)).go i₂ q₂ fun e z σ₃ s₃ re h₃ i₃ j₃ q₃ => ?_))))
  exact wpAny_release ⟨(), σ₃, rfl, h₃, i₃, q₃⟩

/-- what a list of targets does -/
inductive SimTs (prog : Program) (w : World) (TS : TopS) (n : Nat) (A : Around) (env : Env) : List (Bool × (Value → Sem Unit)) → List (LV → PTx Unit) → Prop
  | nil : SimTs prog w TS n A env [] []
  | cons {t : Value → Sem Unit} {ts : List (Bool × (Value → Sem Unit))} {m : LV → PTx Unit} {ms : List (LV → PTx Unit)} : Sim1 prog w TS n A env t REq m → SimTs prog w TS n A env ts ms → SimTs prog w TS n A env ((false, t) :: ts) (m :: ms)
theorem SimTs.length {ts ms} (r : SimTs prog w TS n A env ts ms) : ts.length = ms.length := by
  induction r with
  | nil => rfl
  | cons _ _ ih => exact congrArg (· + 1) ih
theorem SimTs.star {ts ms} (r : SimTs prog w TS n A env ts ms) : ts.findIdx? (·.1) = none := by
  induction r with
  | nil => rfl
  | cons _ _ ih => rw [List.findIdx?_cons, ih]; rfl
theorem SimTs.run {ts ms} (ht : SimTs prog w TS n A env ts ms) {vs : List LV} {xs : List Value} {σ : LS} {s : Shared} {h0 : Heap} {Q : Unit → LS → Prop} {E : LX → LS → Prop} (W : WF TS n c A env) (h : Rel prog w c env σ s) (i0 : Imm h0 s.heap) (r : VRels s.heap vs xs) (q : pseqL ms vs Q E σ) :
    wpAny (model prog w) A (assignInOrder (ts.map (·.2)) xs) (Post prog w c env REq h0 Q) (EPost prog w c env h0 E) s := by
  induction ht generalizing vs xs σ s with
  | nil =>
    cases vs with
    | nil => cases r.nil_inv; exact wpAny_pure ⟨(), σ, rfl, h, i0, q⟩
    | cons => exact q.elim
  | cons ht _ ih =>
    cases vs with
    | nil => exact q.elim
    | cons v vs =>
      obtain ⟨x, xs, rfl, rx, r⟩ := r.cons_inv
      exact wpAny_bind (wpAny_holding ((ht _ σ s _ _ W h rx).go i0 q fun _ _ σ₁ s₁ _ h₁ i₁ j₁ q₁ => ih h₁ i₁ (r.imm j₁) q₁))
theorem sim_tTuple {elts : List Expr} {k : Nat} {pos : Pos} {ms : List (LV → PTx Unit)} (hh : A.handled = none) (ht : SimTs prog w TS n A env (assignEach elts env) ms) :
    Sim1 prog w TS n A env (assign (.Tuple elts k pos) env) REq (fun v => fun Q E σ => (∃ vs, v = .tup vs ∧ vs.length = ms.length) ∧ punpack ms v Q E σ) := fun c σ s a v W h ra Q E q => by
  obtain ⟨⟨vs, rfl, hl⟩, q⟩ := q
  obtain ⟨t, items, n1, rfl, e, r⟩ := ra.tup_inv
  have hlen := r.length
  refine wpAny_assign_Tuple hh ⟨_, e, rfl, _, rfl⟩ (by rw [ht.length, List.size_toArray]; omega) ht.star fun h' hx => ?_
  have k9 : ∀ b o, s.heap.get? b = some o → h'.get? b = some o := fun b o e => hx b o (Nat.ne_of_lt (Heap.lt_size e)) e
  have im := Imm.of_keeps k9
  exact ht.run W (h.keeps (tk := s.toks) k9) im (r.imm im) q

-- assignments
theorem sim_Assign {target e : Expr} {pos : Pos} {m : PTx LV} {p : LV → PTx Unit} (h1 : Sim prog w TS n A env (eval e env) VRel m) (ht : Sim1 prog w TS n A env (assign target env) REq p) (hst : assignEach [target] env = [(false, assign target env)])
    (hs : swapsWithSole [target] e pos.line env = pure false) (hw : swappedStores [target] e env = pure none) :
    Sim prog w TS n A env (exec (.Assign [target] e pos) env) FlRel (pbind m fun v => pbind (p v) fun _ => pret .next) := fun c σ s W h Q E q => by
  refine wpAny_Assign_stores ((h1 c σ s W h).go (Imm.refl _) q fun a v σ₁ s₁ ra h₁ i₁ j₁ q₁ => ?_) hs hw
  rw [hst]
  exact (ht c σ₁ s₁ a v W h₁ ra).go i₁ q₁ fun _ _ σ₂ s₂ _ h₂ i₂ j₂ q₂ => ⟨_, σ₂, .next, h₂, i₂, q₂⟩
theorem sim_Assign2 {t1 t2 e : Expr} {pos : Pos} {m : PTx LV} {p1 p2 : LV → PTx Unit} (h1 : Sim prog w TS n A env (eval e env) VRel m) (ht1 : Sim1 prog w TS n A env (assign t1 env) REq p1) (ht2 : Sim1 prog w TS n A env (assign t2 env) REq p2) (hst : assignEach [t1, t2] env = [(false, assign t1 env), (false, assign t2 env)]) (hw : swappedStores [t1, t2] e env = pure none) :
    Sim prog w TS n A env (exec (.Assign [t1, t2] e pos) env) FlRel (pbind m fun v => pbind (p1 v) fun _ => pbind (p2 v) fun _ => pret .next) := fun c σ s W h Q E q => by
  refine wpAny_Assign_stores ((h1 c σ s W h).go (Imm.refl _) q fun a v σ₁ s₁ ra h₁ i₁ j₁ q₁ => ?_) rfl hw
  rw [hst]
  exact wpAny_bind (wpAny_holding ((ht1 c σ₁ s₁ a v W h₁ ra).go i₁ q₁ fun _ _ σ₂ s₂ _ h₂ i₂ j₂ q₂ => (ht2 c σ₂ s₂ a v W h₂ (ra.imm j₂)).go i₂ q₂ fun _ _ σ₃ s₃ _ h₃ i₃ j₃ q₃ => ⟨_, σ₃, .next, h₃, i₃, q₃⟩))
theorem sim_NamedExpr {t e : Expr} {pos : Pos} {m : PTx LV} {p : LV → PTx Unit} (h1 : Sim prog w TS n A env (eval e env) VRel m) (ht : Sim1 prog w TS n A env (assign t env) REq p) :
    Sim prog w TS n A env (eval (.NamedExpr t e pos) env) VRel (pbind m fun v => pbind (p v) fun _ => pret v) := fun c σ s W h Q E q =>
  wpAny_NamedExpr ((h1 c σ s W h).go (Imm.refl _) q fun a v σ₁ s₁ ra h₁ i₁ j₁ q₁ => (ht c σ₁ s₁ a v W h₁ ra).go i₁ q₁ fun _ _ σ₂ s₂ _ h₂ i₂ j₂ q₂ => ⟨_, σ₂, ra.imm j₂, h₂, i₂, q₂⟩)
theorem sim_Delete {o i : Expr} {pos pos' : Pos} {mo mi : PTx LV} {p : LV → LV → PTx Unit} (ho : Sim prog w TS n A env (eval o env) VRel mo) (hi : Sim prog w TS n A env (eval i env) VRel mi) (hp : Sim2 prog w TS n A env delItem REq p) :
    Sim prog w TS n A env (exec (.Delete [.Subscript o i pos'] pos) env) FlRel (pbind mo fun a => pbind mi fun b => pbind (p a b) fun _ => pret .next) := fun c σ s W h Q E q =>
  wpAny_Delete (wpAny_deleteEach_cons (wpAny_delete_Subscript ((ho c σ s W h).go (Imm.refl _) q fun a x σ₁ s₁ ra h₁ i₁ j₁ q₁ => (hi c σ₁ s₁ W h₁).go i₁ q₁ fun b y σ₂ s₂ rb h₂ i₂ j₂ q₂ => (hp c σ₂ s₂ a x b y W h₂ (ra.imm j₂) rb).go i₂ q₂ fun _ _ σ₃ s₃ _ h₃ i₃ j₃ q₃ =>
    wpAny_deleteEach_nil ⟨_, σ₃, .next, h₃, i₃, q₃⟩)))

-- membership
theorem ints_inv {h : Heap} {is : List Int} {vs : List Value} (r : VRels h (is.map .int) vs) : IntsAre vs is := by
  induction is generalizing vs with
  | nil => cases r.nil_inv; exact .nil
  | cons i is ih => obtain ⟨v, vs, rfl, x, r'⟩ := r.cons_inv; obtain ⟨t, rfl⟩ := x.int_inv; exact .cons i t (ih r')
theorem eqAt_int {A' : Around} {s : Shared} (i k : Int) (t u : Tok) : EqAt A' s (.int i t) (.int k u) (i == k) := fun prog w E Q h => wpAny_eqBool_int h
def eqInt (k : Int) : Value → Bool
  | .int i _ => i == k
  | _ => false
theorem any_ints {k : Int} {vs : List Value} {is : List Int} (r : IntsAre vs is) : vs.any (eqInt k) = is.contains k := by
  induction r with
  | nil => rfl
  | cons i t _ ih => rw [List.any_cons, ih, List.contains_cons, BEq.comm (a := k)]; rfl
theorem mem_ints {vs : List Value} {is : List Int} (r : IntsAre vs is) : ∀ v ∈ vs, ∃ i t, v = .int i t := by
  induction r with
  | nil => exact fun _ h => nomatch h
  | cons i t _ ih =>
    intro v h
    rcases List.mem_cons.mp h with rfl | h
    · exact ⟨i, t, rfl⟩
    · exact ih v h
theorem sim_plin : Sim2 prog w TS n A env (compareOp .In) RB plin := fun c σ s a x b y W h ra rb Q E q => by
  unfold plin at q; split at q
  · obtain ⟨is, e, q⟩ := q
    obtain ⟨t, rfl⟩ := ra.int_inv; cases rb.ref_inv
    obtain ⟨hz, it, n1, l1, r1⟩ := h.list_at e
    have hi := ints_inv r1
    rename_i k a
    refine in_listAt (eqInt k) l1.isList (fun y hy => ?_) ⟨_, σ, ?_, h, Imm.refl _, q⟩
    · obtain ⟨i, u, rfl⟩ := mem_ints hi y (by simpa using hy)
      exact eqAt_int i k u t
    · show _ = _; rw [← any_ints hi]; simp
  · exact q.elim
theorem sim_plnotin : Sim2 prog w TS n A env (compareOp .NotIn) RB plnotin := fun c σ s a x b y W h ra rb Q E q => by
  unfold plnotin at q; split at q
  · obtain ⟨is, e, q⟩ := q
    obtain ⟨t, rfl⟩ := ra.int_inv; cases rb.ref_inv
    obtain ⟨hz, it, n1, l1, r1⟩ := h.list_at e
    have hi := ints_inv r1
    rename_i k a
    refine notIn_listAt (eqInt k) l1.isList (fun y hy => ?_) ⟨_, σ, ?_, h, Imm.refl _, q⟩
    · obtain ⟨i, u, rfl⟩ := mem_ints hi y (by simpa using hy)
      exact eqAt_int i k u t
    · show _ = _; rw [← any_ints hi]; simp
  · exact q.elim
theorem OV.isSome {h : Heap} {a : Option LV} {v : Option Value} (x : OV h a v) : a.isSome = v.isSome := by
  cases a <;> cases v <;> first | rfl | exact x.elim
theorem sim_pdin : Sim2 prog w TS n A env (compareOp .In) RB pdin := fun c σ s a x b y W h ra rb Q E q => by
  unfold pdin at q; split at q
  · obtain ⟨es, ep, e, q⟩ := q
    obtain ⟨t, rfl⟩ := ra.int_inv; cases rb.ref_inv
    obtain ⟨hz, kvs, d1, r1⟩ := h.dict_at e
    exact wpAny_in_of (int_is _ _) (h.not_sysm W e) d1.mapOf ⟨_, σ, by show _ = _; rw [(r1.lookup _).isSome], h.toks _, Imm.refl _, q⟩
  · exact q.elim
theorem sim_pdnotin : Sim2 prog w TS n A env (compareOp .NotIn) RB pdnotin := fun c σ s a x b y W h ra rb Q E q => by
  unfold pdnotin at q; split at q
  · obtain ⟨es, ep, e, q⟩ := q
    obtain ⟨t, rfl⟩ := ra.int_inv; cases rb.ref_inv
    obtain ⟨hz, kvs, d1, r1⟩ := h.dict_at e
    exact wpAny_notIn_of (int_is _ _) (h.not_sysm W e) d1.mapOf ⟨_, σ, by show _ = _; rw [(r1.lookup _).isSome], h.toks _, Imm.refl _, q⟩
  · exact q.elim
theorem sim_psin : Sim2 prog w TS n A env (compareOp .In) RB psin := fun c σ s a x b y W h ra rb Q E q => by
  unfold psin at q; split at q
  · obtain ⟨S, m, e, q⟩ := q
    obtain ⟨t, rfl⟩ := ra.int_inv; cases rb.ref_inv
    obtain ⟨hz, d1⟩ := h.obj _ _ e
    exact wpAny_inSet_of (int_is _ _) rfl d1 ⟨_, σ, rfl, h.toks _, Imm.refl _, q⟩
  · exact q.elim

-- displays
theorem sim_args_nil : Sim prog w TS n A env (spliced []) VRels (pret []) := fun c σ s W h Q E q => spliced_nil ⟨[], σ, .nil, h, Imm.refl _, q⟩
theorem sim_args_cons {t : Sem Value} {rest : List (Bool × Sem Value)} {m : PTx LV} {k : PTx (List LV)} (h1 : Sim prog w TS n A env t VRel m) (h2 : Sim prog w TS n A env (spliced rest) VRels k) :
    Sim prog w TS n A env (spliced ((false, t) :: rest)) VRels (pbind m fun a => pbind k fun as => pret (a :: as)) := fun c σ s W h Q E q =>
  spliced_cons ((h1 c σ s W h).go (Imm.refl _) q fun a v σ₁ s₁ ra h₁ i₁ j₁ q₁ => (h2 c σ₁ s₁ W h₁).go i₁ q₁ fun as vs σ₂ s₂ ras h₂ i₂ j₂ q₂ => ⟨a :: as, σ₂, .cons (ra.imm j₂) ras, h₂, i₂, q₂⟩)
/-- the arguments of a call, as they are written -/
abbrev argT (pos : Pos) (es : List Expr) (env : Env) : List (Bool × Sem Value) := backTo pos (starEach es env)
theorem sim_arg_nil {pos : Pos} : Sim prog w TS n A env (spliced (argT pos [] env)) VRels (pret []) := sim_args_nil
theorem sim_arg {pos : Pos} {e : Expr} {es : List Expr} {m : PTx LV} {k : PTx (List LV)} (h1 : Sim prog w TS n A env (eval e env) VRel m) (h2 : Sim prog w TS n A env (spliced (argT pos es env)) VRels k)
    (he : starEach (e :: es) env = (false, eval e env) :: starEach es env) : Sim prog w TS n A env (spliced (argT pos (e :: es) env)) VRels (pbind m fun a => pbind k fun as => pret (a :: as)) := by
  unfold argT; rw [he]; exact sim_args_cons h1 h2
theorem sim_List {es : List Expr} {pos : Pos} {m : PTx (List LV)} (h1 : Sim prog w TS n A env (spliced (argT pos es env)) VRels m) : Sim prog w TS n A env (eval (.List es pos) env) VRel (pbind m plist) := fun c σ s W h Q E q => by
  refine wpAny_List_spliced ((h1 c σ s W h).go (Imm.refl _) q fun as vs σ₁ s₁ ra h₁ i₁ j₁ q₁ => ?_)
  have hl := ra.length
  have := cap_le
  have k : ∀ b o, s₁.heap.get? b = some o → (s₁.heap.push { cls := .type "list", data := .seq vs.toArray }).get? b = some o := fun b o e => Heap.get?_push_of_some _ e
  refine ⟨by have := q₁.1; omega, _, _, .ref _, h₁.alloc (tk := s₁.toks) (o := .list as) k ⟨q₁.1, _, 0, Heap.get?_push_size _ rfl, by simpa using ra.imm (Imm.of_keeps k)⟩, i₁.trans (Imm.of_keeps k), q₁.2 _ h₁.fresh_obj⟩
theorem sim_Tuple {es : List Expr} {pos : Pos} {x1 : Nat} {m : PTx (List LV)} (h1 : Sim prog w TS n A env (spliced (argT pos es env)) VRels m) : Sim prog w TS n A env (eval (.Tuple es x1 pos) env) VRel (pbind m ptuple) := fun c σ s W h Q E q => by
  refine wpAny_Tuple_spliced ((h1 c σ s W h).go (Imm.refl _) q fun as vs σ₁ s₁ ra h₁ i₁ j₁ q₁ => ?_)
  have hl := ra.length
  have := cap_le
  have k : ∀ b o, s₁.heap.get? b = some o → (s₁.heap.push { cls := .type "tuple", data := .seq vs.toArray }).get? b = some o := fun b o e => Heap.get?_push_of_some _ e
  exact ⟨by have := q₁.1; omega, _, _, .tup (items := vs) (n := 0) (Heap.get?_push_size _ rfl) (ra.imm (Imm.of_keeps k)), h₁.keeps (tk := s₁.toks) k, i₁.trans (Imm.of_keeps k), q₁.2⟩
theorem sim_Dict0 {pos : Pos} : Sim prog w TS n A env (eval (.Dict [] [] pos) env) VRel pdict0 := fun c σ s W h Q E q => by
  have k : ∀ b o, s.heap.get? b = some o → (s.heap.push { cls := .type "dict", data := .dict #[] }).get? b = some o := fun b o e => Heap.get?_push_of_some _ e
  exact wpAny_Dict_empty ⟨_, _, .ref _, h.alloc (tk := s.toks) (o := .dict [] 0) k ⟨Nat.zero_le _, [], ⟨_, #[], Heap.get?_push_size _ rfl, ⟨rfl, rfl, rfl⟩, rfl, fun _ he => by simp at he, Pairs.nil, List.nodup_nil⟩, .nil⟩, Imm.of_keeps k, q _ h.fresh_obj⟩

-- lists compared
theorem IntsAre.getA {items : Array Value} {is : List Int} (hi : IntsAre items.toList is) {j : Nat} (h1 : j < items.size) : ∃ i t, items[j] = .int i t ∧ is[j]? = some i := by
  have hlen := hi.length
  simp only [Array.length_toList] at hlen
  have hj : j < is.length := by omega
  obtain ⟨t, ht⟩ := hi.get j is[j] (by simp [hj])
  refine ⟨is[j], t, ?_, by simp [hj]⟩
  have : items.toList[j]? = some items[j] := by simp [h1]
  rw [this] at ht; exact Option.some.inj ht
theorem sim_pleq0 : Sim2 prog w TS n A env (compareOp .Eq) RB pleq0 := fun c σ s a x b y W h ra rb Q E q => by
  unfold pleq0 at q; split at q
  · obtain ⟨xs, e1, e2, q⟩ := q
    cases ra.ref_inv; cases rb.ref_inv
    obtain ⟨hz, it, n1, l1, r1⟩ := h.list_at e1
    obtain ⟨hz2, it2, n2, l2, r2⟩ := h.list_at e2
    have s1 := r1.sizeA; have s2 := r2.sizeA
    have hu : A.units < cLine := Nat.lt_of_le_of_lt (Nat.le_add_right _ _) W.units
    cases xs with
    | nil => 
      simp only [List.length_nil] at s1 s2
      refine eq_listAt (e := fun _ => true) l1.isList l2.isList (by omega) hu (fun j h1 h2 => absurd h1 (by omega)) ⟨_, σ, ?_, h, Imm.refl _, q⟩
      show _ = _; rw [s1]; rfl
    | cons v vs =>
      simp only [List.length_nil, List.length_cons] at s1 s2
      exact eq_list_lengthsAt l1.isList l2.isList (by simp; omega) hu ⟨_, σ, rfl, h, Imm.refl _, q⟩
  · exact q.elim
end
end Mine
end
noncomputable section
open PySem PySem.W PyProof.Rows PySem.Calls PySem.SeqAt
set_option Elab.async false
set_option linter.unusedVariables false
namespace Mine

def pislist : LV → PTx Unit
  | .ref a => fun Q _ σ => (∃ xs, σ.heap a = some (.list xs)) ∧ Q () σ
  | _ => pfail
def pisdict : LV → PTx Unit
  | .ref a => fun Q _ σ => (∃ es ep, σ.heap a = some (.dict es ep)) ∧ Q () σ
  | _ => pfail
def pisset : LV → PTx Unit
  | .ref a => fun Q _ σ => (∃ S n, σ.heap a = some (.set S n)) ∧ Q () σ
  | _ => pfail
def plappend : LV → List LV → PTx LV
  | .ref a, [v] => fun Q _ σ => ∃ xs, σ.heap a = some (.list xs) ∧ xs.length + 1 ≤ cap ∧ Q .none (σ.put a (.list (xs ++ [v])))
  | _, _ => pfail
def plpop : LV → List LV → PTx LV
  | .ref a, [] => fun Q _ σ => ∃ xs v, σ.heap a = some (.list xs) ∧ xs.getLast? = some v ∧ Q v (σ.put a (.list xs.dropLast))
  | _, _ => pfail
def plclear : LV → List LV → PTx LV
  | .ref a, [] => fun Q _ σ => ∃ xs, σ.heap a = some (.list xs) ∧ Q .none (σ.put a (.list []))
  | _, _ => pfail
def on1 (f : LV → PTx LV) : List LV → PTx LV
  | [v] => f v
  | _ => pfail
theorem on1_inv {f : LV → PTx LV} {as : List LV} {Q : LV → LS → Prop} {E : LX → LS → Prop} {σ : LS} (q : on1 f as Q E σ) : ∃ v, as = [v] ∧ f v Q E σ := by
  cases as with
  | nil => exact q.elim
  | cons v as => cases as with
    | nil => exact ⟨v, rfl, q⟩
    | cons => exact q.elim
def onR (f : Nat → PTx LV) : LV → PTx LV
  | .ref a => f a
  | _ => pfail
theorem onR_inv {f : Nat → PTx LV} {v : LV} {Q : LV → LS → Prop} {E : LX → LS → Prop} {σ : LS} (q : onR f v Q E σ) : ∃ a, v = .ref a ∧ f a Q E σ := by
  cases v <;> first | exact q.elim | exact ⟨_, rfl, q⟩
def onRT (f : Nat → PTx LV) (g : List LV → PTx LV) (k : PTx LV) : LV → PTx LV
  | .ref a => f a
  | .tup vs => g vs
  | _ => k
theorem onRT_inv {f : Nat → PTx LV} {g : List LV → PTx LV} {v : LV} {Q : LV → LS → Prop} {E : LX → LS → Prop} {σ : LS} (q : onRT f g pfail v Q E σ) : (∃ a, v = .ref a ∧ f a Q E σ) ∨ ∃ vs, v = .tup vs ∧ g vs Q E σ := by
  cases v <;> first | exact q.elim | exact .inl ⟨_, rfl, q⟩ | exact .inr ⟨_, rfl, q⟩
def plextend : LV → List LV → PTx LV
  | .ref a, as => on1 (onRT (fun b Q _ σ => ∃ xs ys, σ.heap a = some (.list xs) ∧ σ.heap b = some (.list ys) ∧ xs.length + ys.length ≤ cap ∧ Q .none (σ.put a (.list (xs ++ ys))))
    (fun ys Q _ σ => ∃ xs, σ.heap a = some (.list xs) ∧ xs.length + ys.length ≤ cap ∧ Q .none (σ.put a (.list (xs ++ ys)))) pfail) as
  | _, _ => pfail
def plremove : LV → List LV → PTx LV
  | .ref a, [.int k] => fun Q _ σ => ∃ is : List Int, σ.heap a = some (.list (is.map .int)) ∧ k ∈ is ∧ Q .none (σ.put a (.list ((is.erase k).map .int)))
  | _, _ => pfail
def pdget1 : LV → List LV → PTx LV
  | .ref a, [.int k] => fun Q _ σ => ∃ es ep, σ.heap a = some (.dict es ep) ∧ Q ((es.lookup k).getD .none) σ
  | _, _ => pfail
def pdget2 : LV → List LV → PTx LV
  | .ref a, [.int k, d] => fun Q _ σ => ∃ es ep, σ.heap a = some (.dict es ep) ∧ Q ((es.lookup k).getD d) σ
  | _, _ => pfail
def psadd : LV → List LV → PTx LV
  | .ref a, [.int k] => fun Q _ σ => ∃ S n, σ.heap a = some (.set S n) ∧ n < 1000 ∧ Q .none (σ.put a (.set (fun k' => S k' || decide (k' = k)) (if S k then n else n + 1)))
  | _, _ => pfail
def plen : List LV → PTx LV := on1 (onRT (fun a Q _ σ => ∃ xs, σ.heap a = some (.list xs) ∧ Q (.int xs.length) σ) (fun vs Q _ σ => vs.length ≤ cap ∧ Q (.int vs.length) σ) pfail)
def psorted : List LV → PTx LV := on1 (onR fun a Q _ σ => ∃ is : List Int, σ.heap a = some (.list (is.map .int)) ∧ is.length < 64 ∧ ∀ js : List Int, js.Perm is → js.Pairwise (· ≤ ·) → ∀ d, σ.heap d = none → Q (.ref d) (σ.put d (.list (js.map .int))))
def psum : List LV → PTx LV := on1 (onR fun a Q _ σ => ∃ is : List Int, σ.heap a = some (.list (is.map .int)) ∧ Q (.int is.sum) σ)
def plistof1 : LV → PTx LV
  | .ref a => fun Q _ σ => ∃ xs, σ.heap a = some (.list xs) ∧ ∀ d, σ.heap d = none → Q (.ref d) (σ.put d (.list xs))
  | .tup xs => fun Q _ σ => xs.length ≤ cap ∧ ∀ d, σ.heap d = none → Q (.ref d) (σ.put d (.list xs))
  | .rng a b c => fun Q _ σ => c = 1 ∧ a = 0 ∧ 0 ≤ b ∧ b ≤ 1000 ∧ ∀ d, σ.heap d = none → Q (.ref d) (σ.put d (.list ((List.range b.toNat).map fun (i : Nat) => LV.int (i : Int))))
  | _ => pfail
def plistof : List LV → PTx LV := on1 plistof1
def ptupof : List LV → PTx LV := on1 (onR fun a Q _ σ => ∃ xs, σ.heap a = some (.list xs) ∧ Q (.tup xs) σ)
def pset0 : List LV → PTx LV
  | [] => fun Q _ σ => ∀ d, σ.heap d = none → Q (.ref d) (σ.put d (.set (fun _ => false) 0))
  | _ => pfail
def pintof : List LV → PTx LV
  | [.int i] => pret (.int i)
  | _ => pfail
def prange1 : List LV → PTx LV
  | [.int b] => pret (.rng 0 b 1)
  | _ => pfail
def piter : List LV → PTx LV := on1 (onR fun a Q _ σ => ∃ xs, σ.heap a = some (.list xs) ∧ ∀ d, σ.heap d = none → Q (.ref d) (σ.put d (.iter a 0)))

section
variable {prog : Program} {w : World} {TS : TopS} {c : Cx} {A : Around} {env : Env} {σ : LS} {s : Shared} {n : Nat}

-- evaluation of a call's arguments, the callee a built-in or a type
theorem evalArgs_go {f : Value} {args : List (Bool × Sem Value)} {Q : Args → Shared → Prop} {E : Value → Shared → Prop} {M : Model} (hns : args.any (·.1) = false) (h : wpAny M A (spliced args) (fun vs s' => Q ⟨vs, []⟩ s') E s) : wpAny M A (evalArgs f true args []) Q E s := by
  cases args with
  | nil =>
    unfold evalArgs
    show wpAny M A (spliced [] >>= _) Q E s
    refine wpAny_bind (wpAny_mono h (fun vs s' h' => ?_) fun _ _ x => x)
    exact wpAny_bind (wpAny_pure (wpAny_holding (wpAny_bind (wpAny_pure (wpAny_bind (wpAny_pure (wpAny_pure h')))))))
  | cons a r =>
    obtain ⟨b, t⟩ := a
    have hb : b = false := by simp at hns; exact hns.1
    subst hb
    exact evalArgs_plain h
def machine : Value → Bool
  | .ref _ => false
  | _ => true
theorem keeper_machine {f : Value} (hm : machine f = true) : keeperOf f = pure .machine := by
  cases f <;> first | rfl | cases hm
theorem callWith_machine {f : Value} {first : List Value} {pos : Pos} {args : List (Bool × Sem Value)} {Q : Value → Shared → Prop} {E : Value → Shared → Prop} {M : Model} (hm : machine f = true) (hns : args.any (·.1) = false)
    (h : wpAny M A (spliced args) (fun vs s' => wpAny M A (call f (first ++ vs)) Q E s') E s) : wpAny M A (callWith pos f first args []) Q E s := by
  unfold callWith
  refine wpAny_bind (wpAny_holding (evalArgs_go hns (wpAny_mono h (fun vs s' h' => ?_) fun _ _ x => x)))
  refine wpAny_bind (wpAny_standAt ?_)
  simp only [hns, List.any_nil, Bool.or_false]
  refine wpAny_bind (wpAny_of_eq (keeper_machine hm) ?_)
  exact wpAny_bind (wpAny_mono h' (fun r s₂ hr => wpAny_bind (wpAny_holding (wpAny_point (wpAny_pure hr)))) fun _ _ x => x)

theorem sim_CallB {f : String} {v : Value} {es : List Expr} {np pos : Pos} {m : PTx (List LV)} {p : List LV → PTx LV} (hv : TS.gl f = some v) (hm : machine v = true) (hk : env.kindOf (Str.ofString f) = some .globalImplicit) (hd : (Str.ofString f == ("__debug__" : Str)) = false)
    (hns : (argT pos es env).any (·.1) = false) (ha : Sim prog w TS n A env (spliced (argT pos es env)) VRels m) (hp : SimL prog w TS n A env (fun vs => call v vs) VRel p) :
    Sim prog w TS n A env (eval (.Call (.Name (Str.ofString f) np) es [] pos) env) VRel (pbind m p) := fun c σ s W h Q E q => by
  refine wpAny_Call_ofName (at_glob hv hk hd W h (callWith_machine hm hns ?_))
  exact (ha c σ s W h).go (Imm.refl _) q fun as vs σ₁ s₁ ra h₁ i₁ j₁ q₁ => (hp c σ₁ s₁ as vs W h₁ ra).fin i₁ q₁

-- methods of built-in types
def SimM (prog : Program) (w : World) (TS : TopS) (n : Nat) (A : Around) (env : Env) (id : String) (p : LV → List LV → PTx LV) : Prop :=
  ∀ c σ s a x as xs, WF TS n c A env → Rel prog w c env σ s → VRel s.heap a x → VRels s.heap as xs → At prog w c A env (call (.builtin id) (x :: xs)) VRel (p a as) σ s
/-- the object is of the type T, as the transformer ck says -/
def IsOf (prog : Program) (w : World) (T : String) (ck : LV → PTx Unit) : Prop :=
  ∀ (c : Cx) (env : Env) (σ : LS) (s : Shared) (a : LV) (x : Value) (Q : Unit → LS → Prop) (E : LX → LS → Prop), Rel prog w c env σ s → VRel s.heap a x → ck a Q E σ → s.TypeIs x T ∧ (∀ b, x = .ref b → ∃ ob, s.heap.get? b = some ob ∧ ob.dict = none) ∧ Q () σ
theorem isOf_list : IsOf prog w "list" pislist := fun c env σ s a x Q E h ra q => by
  unfold pislist at q; split at q
  · obtain ⟨⟨xs, e⟩, q⟩ := q
    cases ra.ref_inv
    obtain ⟨hz, it, n1, l1, r1⟩ := h.list_at e
    exact ⟨⟨_, l1, rfl⟩, fun b hb => by cases hb; exact ⟨_, l1, rfl⟩, q⟩
  · exact q.elim
theorem isOf_dict : IsOf prog w "dict" pisdict := fun c env σ s a x Q E h ra q => by
  unfold pisdict at q; split at q
  · obtain ⟨⟨xs, ep, e⟩, q⟩ := q
    cases ra.ref_inv
    obtain ⟨hz, kvs, d1, r1⟩ := h.dict_at e
    refine ⟨d1.typeIs, fun b hb => ?_, q⟩
    cases hb
    obtain ⟨ob, es, ep, e1, e2, _⟩ := d1
    exact ⟨ob, e1, e2.2.1⟩
  · exact q.elim
theorem isOf_set : IsOf prog w "set" pisset := fun c env σ s a x Q E h ra q => by
  unfold pisset at q; split at q
  · obtain ⟨⟨S, m, e⟩, q⟩ := q
    cases ra.ref_inv
    obtain ⟨hz, d1⟩ := h.obj _ _ e
    refine ⟨d1.typeIs, fun b hb => ?_, q⟩
    cases hb
    obtain ⟨ob, es, ep, t, e1, e2, _⟩ := d1
    exact ⟨ob, e1, e2.2.1⟩
  · exact q.elim

theorem sim_CallM {o : Expr} {name : String} {T id : String} {es : List Expr} {apos pos : Pos} {mo : PTx LV} {ck : LV → PTx Unit} {m : PTx (List LV)} {p : LV → List LV → PTx LV} (pa : PlainAttrs T) (slot : Slot T (Str.ofString name) id) (hty : typeOf (.builtin id) = pure (.type "method_descriptor"))
    (hbase : attributeBase o (Str.ofString name) env (eval o env) = eval o env)
    (hfew : ((backTo pos (starEach es env)).all (fun x => !x.1) && (backToKw pos (keywordEach [] env)).all (fun x => x.1.isSome) && decide (es.length + ([] : List Keyword).length + (if ([] : List Keyword).isEmpty then 0 else 1) < 30)) = true)
    (hline : (apos.endLine == pos.line) = true) (hns : (argT pos es env).any (·.1) = false)
    (ho : Sim prog w TS n A env (eval o env) VRel mo) (hck : IsOf prog w T ck) (ha : Sim prog w TS n A env (spliced (argT pos es env)) VRels m) (hp : SimM prog w TS n A env id p) :
    Sim prog w TS n A env (eval (.Call (.Attribute o (Str.ofString name) apos) es [] pos) env) VRel (pbind mo fun a => pbind (ck a) fun _ => pbind m fun as => p a as) := fun c σ s W h Q E q => by
  refine wpAny_Call_method hbase hfew hline pa slot hty ((ho c σ s W h).go (Imm.refl _) q fun a x σ₁ s₁ ra h₁ i₁ j₁ q₁ => ?_)
  obtain ⟨t1, t2, q₂⟩ := hck c env σ₁ s₁ a x _ E h₁ ra q₁
  refine ⟨t1, t2, callWith_machine rfl hns ?_⟩
  exact (ha c σ₁ s₁ W h₁).go i₁ q₂ fun as vs σ₂ s₂ ras h₂ i₂ j₂ q₃ => (hp c σ₂ s₂ a x as vs W h₂ (ra.imm j₂) ras).fin i₂ q₃

-- the methods
theorem lupd (h : Rel prog w c env σ s) {a : Nat} {xs ys : List LV} {it : Array Value} {n1 : Nat} (e : σ.heap a = some (.list xs)) (l1 : IsL s.heap a it n1) (f : Array Value → Array Value) {Q : LV → LS → Prop} {v : LV} {x : Value} (hz : ys.length ≤ cap) (hr : VRels s.heap ys (f it).toList) (hv : VRel s.heap v x) (q : Q v (σ.put a (.list ys))) :
    Post prog w c env VRel s.heap Q x { s with heap := s.heap.update a (Obj.mapSeq f) } := by
  have k := (Heap.SameBut.update s.heap a (Obj.mapSeq f)).extBut
  have im := h.update_imm e k
  exact ⟨v, _, hv.imm im, h.update (tk := s.toks) (o' := .list ys) e k ⟨hz, _, _, l1.update f, hr.imm im⟩, im, q⟩
theorem VRels.one_inv {h : Heap} {a : LV} {xs : List Value} (r : VRels h [a] xs) : ∃ x, xs = [x] ∧ VRel h a x := by
  obtain ⟨v, vs, rfl, x, r⟩ := r.cons_inv; cases r.nil_inv; exact ⟨_, rfl, x⟩
theorem VRels.two_inv {h : Heap} {a b : LV} {xs : List Value} (r : VRels h [a, b] xs) : ∃ x y, xs = [x, y] ∧ VRel h a x ∧ VRel h b y := by
  obtain ⟨v, vs, rfl, x, r⟩ := r.cons_inv; obtain ⟨y, rfl, ry⟩ := r.one_inv; exact ⟨_, _, rfl, x, ry⟩
theorem VRels.dropLast {h : Heap} {as : List LV} {vs : List Value} (r : VRels h as vs) : VRels h as.dropLast vs.dropLast := by
  rw [List.dropLast_eq_take, List.dropLast_eq_take, ← r.length]; exact r.take _
theorem eraseLast (it : Array Value) : (it.eraseIdxIfInBounds (it.size - 1)).toList = it.toList.dropLast := by
  rw [Array.toList_eraseIdxIfInBounds]
  apply List.ext_getElem?
  intro i
  rw [List.getElem?_eraseIdx, List.getElem?_dropLast]
  simp only [Array.length_toList]
  split
  · rfl
  · rw [List.getElem?_eq_none (by simp; omega)]

theorem sim_append : SimM prog w TS n A env "list.append" plappend := fun c σ s a x as xs W h ra ras Q E q => by
  unfold plappend at q; split at q
  · obtain ⟨ys, e, hz, q⟩ := q
    cases ra.ref_inv; obtain ⟨y, rfl, ry⟩ := ras.one_inv
    obtain ⟨hz', it, n1, l1, r1⟩ := h.list_at e
    have := cap_le; have := r1.sizeA
    exact call_meets F.slot_list_append ⟨_, l1, rfl⟩ F.entry_list_append (F.args_list_append_2 _ _) (PySem.list_append _ it n1 y (by omega)) ⟨l1, lupd h e l1 _ (by simpa using hz) (by simpa using r1.append (.one ry)) .none q⟩
  · exact q.elim
theorem sim_pop : SimM prog w TS n A env "list.pop" plpop := fun c σ s a x as xs W h ra ras Q E q => by
  unfold plpop at q; split at q
  · obtain ⟨ys, v, e, hv, q⟩ := q
    cases ra.ref_inv; cases ras.nil_inv
    obtain ⟨hz', it, n1, l1, r1⟩ := h.list_at e
    have := cap_le; have hsz := r1.sizeA
    rw [List.getLast?_eq_getElem?] at hv
    obtain ⟨u, h1, h2⟩ := r1.getA hv
    exact call_meets F.slot_list_pop ⟨_, l1, rfl⟩ F.entry_list_pop (F.args_list_pop_1 _) (MeetsSeq.list_pop_last _ it n1 u (by rw [hsz]; exact h1) (by omega)) ⟨l1, lupd h e l1 _ (by simp; omega) (by rw [eraseLast]; exact r1.dropLast) h2 q⟩
  · exact q.elim
theorem sim_clear : SimM prog w TS n A env "list.clear" plclear := fun c σ s a x as xs W h ra ras Q E q => by
  unfold plclear at q; split at q
  · obtain ⟨ys, e, q⟩ := q
    cases ra.ref_inv; cases ras.nil_inv
    obtain ⟨hz', it, n1, l1, r1⟩ := h.list_at e
    have := cap_le; have hsz := r1.sizeA
    exact call_meets F.slot_list_clear ⟨_, l1, rfl⟩ F.entry_list_clear (F.args_list_clear_1 _) (AutoSeq1.list_clear_list_0 _ it n1 (by omega)) ⟨l1, lupd h e l1 _ (Nat.zero_le _) .nil .none q⟩
  · exact q.elim
theorem sim_extend : SimM prog w TS n A env "list.extend" plextend := fun c σ s a x as xs W h ra ras Q E q => by
  obtain ⟨_, rfl, q⟩ : ∃ a', a = .ref a' ∧ plextend (.ref a') as Q E σ := by cases a <;> first | exact q.elim | exact ⟨_, rfl, q⟩
  obtain ⟨_, rfl, q⟩ := on1_inv q
  rcases onRT_inv q with ⟨_, rfl, q⟩ | ⟨_, rfl, q⟩
  · obtain ⟨ys, zs, e, e2, hz, q⟩ := q
    cases ra.ref_inv; obtain ⟨y, rfl, ry⟩ := ras.one_inv; cases ry.ref_inv
    obtain ⟨hz', it, n1, l1, r1⟩ := h.list_at e
    obtain ⟨hz2, it2, n2, l2, r2⟩ := h.list_at e2
    have := cap_le; have := r1.sizeA; have := r2.sizeA
    exact call_meets F.slot_list_extend ⟨_, l1, rfl⟩ F.entry_list_extend (F.args_list_extend_2 _ _) (AutoSeq1.list_extend_list_list_0 _ it n1 _ it2 n2 (extend_door (by omega)) (by omega) (by omega)) ⟨l1, l2, lupd h e l1 _ (by simpa using hz) (by simpa using r1.append r2) .none q⟩
  · obtain ⟨ys, e, hz, q⟩ := q
    cases ra.ref_inv; obtain ⟨y, rfl, ry⟩ := ras.one_inv
    obtain ⟨t, items, n2, rfl, e2, r2⟩ := ry.tup_inv
    obtain ⟨hz', it, n1, l1, r1⟩ := h.list_at e
    have := cap_le; have := r1.sizeA; have := r2.length
    exact call_meets F.slot_list_extend ⟨_, l1, rfl⟩ F.entry_list_extend (F.args_list_extend_2 _ _) (AutoSeq1.list_extend_list_tuple_0 _ it n1 _ items.toArray n2 (extend_door (by simp; omega)) (by omega) (by simp; omega)) ⟨l1, e2, lupd h e l1 _ (by simpa using hz) (by simpa using r1.append r2) .none q⟩
theorem sim_get1 : SimM prog w TS n A env "dict.get" pdget1 := fun c σ s a x as xs W h ra ras Q E q => by
  unfold pdget1 at q; split at q
  · obtain ⟨es, ep, e, q⟩ := q
    cases ra.ref_inv; obtain ⟨y, rfl, ry⟩ := ras.one_inv; obtain ⟨t, rfl⟩ := ry.int_inv
    obtain ⟨hz, kvs, d1, r1⟩ := h.dict_at e
    rename_i b k
    refine call_meetsIn F.slot_dict_get d1.typeIs F.entry_dict_get (F.args_dict_get_2 _ _) (meets_dict_get (intKind prog w) _ (int_is k t) (h.not_sysm W e)) ⟨_, d1.mapOf, ?_⟩
    have ov := r1.lookup k
    refine ⟨_, σ, ?_, h.toks _, Imm.refl _, q⟩
    cases h1 : es.lookup k with
    | none => rw [h1] at ov; cases h2 : valueAt kvs k with
      | none => exact .none
      | some u => rw [h2] at ov; exact ov.elim
    | some v => obtain ⟨u, h3, h4⟩ := OV.some_left (h1 ▸ ov); rw [h3]; exact h4
  · exact q.elim
theorem sim_get2 : SimM prog w TS n A env "dict.get" pdget2 := fun c σ s a x as xs W h ra ras Q E q => by
  unfold pdget2 at q; split at q
  · obtain ⟨es, ep, e, q⟩ := q
    cases ra.ref_inv; obtain ⟨y, z, rfl, ry, rz⟩ := ras.two_inv; obtain ⟨t, rfl⟩ := ry.int_inv
    obtain ⟨hz, kvs, d1, r1⟩ := h.dict_at e
    rename_i b k dd
    refine call_meetsIn F.slot_dict_get d1.typeIs F.entry_dict_get (F.args_dict_get_3 _ _ _) (meets_dict_get_default (intKind prog w) _ (int_is k t) (h.not_sysm W e) z) ⟨_, d1.mapOf, ?_⟩
    have ov := r1.lookup k
    refine ⟨_, σ, ?_, h.toks _, Imm.refl _, q⟩
    cases h1 : es.lookup k with
    | none => rw [h1] at ov; cases h2 : valueAt kvs k with
      | none => exact rz
      | some u => rw [h2] at ov; exact ov.elim
    | some v => obtain ⟨u, h3, h4⟩ := OV.some_left (h1 ▸ ov); rw [h3]; exact h4
  · exact q.elim
theorem sim_sadd : SimM prog w TS n A env "set.add" psadd := fun c σ s a x as xs W h ra ras Q E q => by
  unfold psadd at q; split at q
  · obtain ⟨S, m, e, hm, q⟩ := q
    cases ra.ref_inv; obtain ⟨y, rfl, ry⟩ := ras.one_inv; obtain ⟨t, rfl⟩ := ry.int_inv
    obtain ⟨hz, d1⟩ := h.obj _ _ e
    refine call_set_add (int_is _ t) rfl d1 (by unfold scanBound; omega) fun h' hs hS => ?_
    have im := h.update_imm e hs.extBut
    refine ⟨.none, _, .none, h.update (o' := .set _ _) e hs.extBut ⟨?_, hS⟩, im, q⟩
    have : (1000 : Nat) ≤ cap := by decide
    split <;> omega
  · exact q.elim
end
end Mine
end
noncomputable section
open PySem PySem.W PyProof.Rows PySem.Calls PySem.SeqAt
set_option Elab.async false
set_option linter.unusedVariables false
namespace Mine
section
variable {prog : Program} {w : World} {TS : TopS} {c : Cx} {A : Around} {env : Env} {σ : LS} {s : Shared} {n : Nat}

theorem sim_len : SimL prog w TS n A env (fun vs => call (.builtin "len") vs) VRel plen := fun c σ s as xs W h ras Q E q => by
  obtain ⟨_, rfl, q⟩ := on1_inv q
  rcases onRT_inv q with ⟨_, rfl, q⟩ | ⟨_, rfl, q⟩
  · obtain ⟨ys, e, q⟩ := q
    obtain ⟨y, rfl, ry⟩ := ras.one_inv; cases ry.ref_inv
    obtain ⟨hz', it, n1, l1, r1⟩ := h.list_at e
    have := cap_big; have hsz := r1.sizeA
    refine len_list l1.isList (by omega) ⟨_, σ, ?_, h.toks _, Imm.refl _, q⟩
    rw [hsz]; exact .int _ _
  · obtain ⟨hz, q⟩ := q
    obtain ⟨y, rfl, ry⟩ := ras.one_inv
    obtain ⟨t, items, n2, rfl, e2, r2⟩ := ry.tup_inv
    have := cap_big; have hsz := r2.length
    refine len_tuple (items := items.toArray) ⟨_, e2, rfl, _, rfl⟩ (by simp; omega) ⟨_, σ, ?_, h.toks _, Imm.refl _, q⟩
    rw [List.size_toArray, ← hsz]; exact .int _ _
theorem vrels_ints {h : Heap} {vs : List Value} {is : List Int} (r : IntsAre vs is) : VRels h (is.map .int) vs := by
  induction r with
  | nil => exact .nil
  | cons i t _ ih => exact .cons (.int i t) ih
theorem sim_sorted : SimL prog w TS n A env (fun vs => call (.builtin "sorted") vs) VRel psorted := fun c σ s as xs W h ras Q E q => by
  obtain ⟨_, rfl, q⟩ := on1_inv q
  obtain ⟨_, rfl, q⟩ := onR_inv q
  · obtain ⟨is, e, h64, q⟩ := q
    obtain ⟨y, rfl, ry⟩ := ras.one_inv; cases ry.ref_inv
    obtain ⟨hz', it, n1, l1, r1⟩ := h.list_at e
    have hi := ints_inv r1
    have hsz := r1.sizeA
    simp only [List.length_map] at hsz
    refine sorted_ints (vs := it.toList) (by simpa using l1.isList) hi (by simpa [hsz] using h64) fun out js hj hp hs => ?_
    obtain ⟨e9, he⟩ := sortedAll_at s.heap it.toList out
    have k : ∀ b o, s.heap.get? b = some o → (sortedAll s.heap it.toList out).get? b = some o := fun _ _ => sortedAll_old
    have im := Imm.of_keeps k
    have hfr : ∀ d, s.heap.objs.size ≤ d → σ.heap d = none := fun d hd => by
      cases q9 : σ.heap d with
      | none => rfl
      | some o => obtain ⟨ob, e', _⟩ := (h.obj _ o q9).notImm; exact absurd (Heap.lt_size e') (Nat.not_lt.mpr hd)
    have hlen := hp.length_eq
    have h1 := h.keeps (tk := s.toks) k
    refine ⟨_, _, .ref _, ?_, im, q js hp hs _ (hfr _ (Nat.le_succ _))⟩
    refine ⟨h1.keep, h1.guard, h1.ns, h1.cell, h1.cin, fun b o₂ e₂ => ?_, fun b o₂ e₂ => ?_, h.gens, h.os, h.drawn⟩
    · simp only [LS.put] at e₂
      by_cases z : b = s.heap.objs.size + 1
      · rw [if_pos z] at e₂; cases e₂; rw [z]
        exact ⟨by simp only [List.length_map] at hz' ⊢; omega, out, e9, he, vrels_ints hj⟩
      · rw [if_neg z] at e₂; exact h1.obj b o₂ e₂
    · simp only [LS.put] at e₂
      by_cases z : b = s.heap.objs.size + 1
      · rw [z]
        have far : ∀ b o, s.heap.get? b = some o → b ≠ s.heap.objs.size + 1 := fun b o e => Nat.ne_of_lt (Nat.lt_succ_of_lt (Heap.lt_size e))
        refine ⟨?_, ?_, fun p hp => ?_, fun y hy => ?_⟩
        · cases q9 : c.base.get? (s.heap.objs.size + 1) with
          | none => rfl
          | some o => exact absurd rfl (far _ _ (h.keep _ _ q9))
        · obtain ⟨m, ⟨o, _, _, e1, _⟩, _⟩ := h.ns; exact Ne.symm (far _ _ e1)
        · obtain ⟨og, g, _⟩ := h.guard p hp; exact far _ _ g
        · obtain ⟨v, oc, e1, _⟩ := h.cin y hy; exact far _ _ e1
      · rw [if_neg z] at e₂; exact h.dom b o₂ e₂
theorem preSum_list (is : List Int) : ∀ n, n ≤ is.length → preSum (fun i => is[i]?.getD 0) n = (is.take n).sum
  | 0, _ => by simp [preSum]
  | n + 1, hn => by
    have h9 : n < is.length := by omega
    rw [preSum, preSum_list is n (by omega), List.take_succ_eq_append_getElem h9, List.sum_append]
    simp [h9]
theorem sim_sum (hh : A.handled = none) : SimL prog w TS n A env (fun vs => call (.builtin "sum") vs) VRel psum := fun c σ s as xs W h ras Q E q => by
  obtain ⟨_, rfl, q⟩ := on1_inv q
  obtain ⟨a, rfl, q⟩ := onR_inv q
  · obtain ⟨is, e, q⟩ := q
    obtain ⟨y, rfl, ry⟩ := ras.one_inv; cases ry.ref_inv
    obtain ⟨hz', it, n1, l1, r1⟩ := h.list_at e
    have hi := ints_inv r1
    have hsz := r1.sizeA
    simp only [List.length_map] at hsz
    have hne : a ≠ s.heap.objs.size := Nat.ne_of_lt (Heap.lt_size l1)
    refine call_sum_walkG (wpAny_pyIter_list l1.isList ⟨_, _, _, _, _, _, (fun i => is[i]?.getD 0), rfl, Walks.list (A := A.in1) hh s.heap.objs.size a hne it, ⟨⟨_, Heap.get?_push_size _ rfl, rfl, rfl⟩, l1.isList.at fun o e => Heap.get?_push_of_some _ e⟩, ?_, ?_, ?_⟩)
    · intro b hb
      rw [Heap.size_push]
      simp at hb
      rcases hb with rfl | rfl
      · exact Nat.lt_succ_self _
      · exact Nat.lt_succ_of_lt (Heap.lt_size l1)
    · intro i v hv
      have hlt : i < it.size := (Array.getElem?_eq_some_iff.mp hv).1
      obtain ⟨k, t, e1, e2⟩ := IntsAre.getA hi hlt
      have : v = it[i] := by rw [Array.getElem?_eq_getElem hlt] at hv; exact (Option.some.inj hv).symm
      exact ⟨t, by rw [this, e1]; simp only [e2]; rfl⟩
    · intro h' tk t' k
      have k' : ∀ b o, s.heap.get? b = some o → h'.get? b = some o := fun b o e => k b o (by simp; exact Nat.ne_of_lt (Heap.lt_size e)) (Heap.get?_push_of_some _ e)
      refine ⟨.int _, σ, ?_, h.keeps k', Imm.of_keeps k', q⟩
      rw [preSum_list is it.size (by omega), List.take_of_length_le (by omega)]; exact .int _ _
theorem alloc_post (h : Rel prog w c env σ s) {h' : Heap} {tk : Nat} {o : LO} {Q : LV → LS → Prop} (k : ∀ b o, s.heap.get? b = some o → h'.get? b = some o) (r : ORel prog w h' s.heap.objs.size o) (q : ∀ d, σ.heap d = none → Q (.ref d) (σ.put d o)) :
    Post prog w c env VRel s.heap Q (.ref s.heap.objs.size) { s with heap := h', toks := tk } := ⟨_, _, .ref _, h.alloc k r, Imm.of_keeps k, q _ h.fresh_obj⟩
theorem vrels_of_get {h : Heap} {as : List LV} {vs : List Value} (e : as.length = vs.length) (k : ∀ (i : Nat) a v, as[i]? = some a → vs[i]? = some v → VRel h a v) : VRels h as vs := by
  induction as generalizing vs with
  | nil => cases vs with | nil => exact .nil | cons => cases e
  | cons a as ih => cases vs with | nil => cases e | cons v vs => exact .cons (k 0 a v rfl rfl) (ih (Nat.succ.inj e) fun i a v h1 h2 => k (i + 1) a v h1 h2)
theorem vrels_range {h : Heap} {acc : Array Value} {m : Nat} (e : acc.size = m) (k : ∀ (j : Nat) v, acc[j]? = some v → ∃ t, v = Value.int (j : Int) t) : VRels h ((List.range m).map fun (i : Nat) => LV.int (i : Int)) acc.toList := by
  refine vrels_of_get (by simp [e]) fun i a v h1 h2 => ?_
  obtain ⟨t, rfl⟩ := k i v (by simpa using h2)
  rw [List.getElem?_map] at h1
  cases h3 : (List.range m)[i]? with
  | none => rw [h3] at h1; cases h1
  | some j =>
    rw [h3] at h1
    have : j = i := by
      have := List.getElem?_eq_some_iff.mp h3
      obtain ⟨hlt, hv⟩ := this
      simpa using hv.symm
    subst this
    cases h1; exact .int _ _
theorem sim_listof (hh : A.handled = none) : SimL prog w TS n A env (fun vs => call (.type "list") vs) VRel plistof := fun c σ s as xs W h ras Q E q => by
  obtain ⟨_, rfl, q1⟩ := on1_inv (f := plistof1) q
  unfold plistof1 at q1; clear q; split at q1
  · obtain ⟨ys, e, q⟩ := q1
    obtain ⟨y, rfl, ry⟩ := ras.one_inv; cases ry.ref_inv
    obtain ⟨hz', it, n1, l1, r1⟩ := h.list_at e
    have := cap_le; have hsz := r1.sizeA
    exact call_list_seq _ (.inl rfl) l1 rfl rfl (fun h' c' k hD => alloc_post h (o := .list ys) k ⟨hz', it, c', hD, r1.imm (Imm.of_keeps k)⟩ q) (by omega)
  · obtain ⟨hz, q⟩ := q1
    obtain ⟨y, rfl, ry⟩ := ras.one_inv
    obtain ⟨t, items, n2, rfl, e2, r2⟩ := ry.tup_inv
    have := cap_le; have hsz := r2.length
    exact call_list_seq _ (.inr rfl) e2 rfl rfl (fun h' c' k hD => alloc_post h (o := .list _) k ⟨hz, items.toArray, c', hD, by simpa using r2.imm (Imm.of_keeps k)⟩ q) (by simp; omega)
  · rename_i a b _
    obtain ⟨rfl, rfl, hb0, hb, q⟩ := q1
    obtain ⟨y, rfl, ry⟩ := ras.one_inv
    cases ry with
    | rng er =>
      have hn : Builtin.Range.rangeSize 0 b 1 = (b.toNat : Int) := by
        unfold Builtin.Range.rangeSize
        simp only [show ((1 : Int) > 0) = True from by simp, if_true]
        split
        · omega
        · omega
      have hcap : (1000 : Nat) ≤ cap := by decide
      refine call_list_range hh er ?_ hn (by have : (1000 : Nat) ≤ 2 ^ 24 := by decide
                                             omega) fun h' tk acc c' k hD hacc => alloc_post h (o := .list _) k ⟨by simp; omega, acc, c', hD, ?_⟩ q
      · exact small_one (by omega) (by omega) (by omega) (by omega)
      · obtain ⟨ha1, ha2⟩ := hacc
        exact vrels_range ha1 fun j v hj => by
          obtain ⟨t, ht⟩ := ha2 j v hj
          exact ⟨t, by simpa using ht⟩
  · exact q1.elim
theorem sim_tupof : SimL prog w TS n A env (fun vs => call (.type "tuple") vs) VRel ptupof := fun c σ s as xs W h ras Q E q => by
  obtain ⟨_, rfl, q⟩ := on1_inv q
  obtain ⟨_, rfl, q⟩ := onR_inv q
  · obtain ⟨ys, e, q⟩ := q
    obtain ⟨y, rfl, ry⟩ := ras.one_inv; cases ry.ref_inv
    obtain ⟨hz', it, n1, l1, r1⟩ := h.list_at e
    have := cap_le; have hsz := r1.sizeA
    refine call_tuple_list l1.isList (fun h' k => ?_) (by omega)
    have k' : ∀ b o, s.heap.get? b = some o → (h'.push { cls := .type "tuple", data := .seq it }).get? b = some o := fun b o e => Heap.get?_push_of_some _ (k b o e)
    exact ⟨_, σ, .tup (items := it.toList) (n := 0) (Heap.get?_push_size _ rfl) (r1.imm (Imm.of_keeps k')), h.keeps (tk := s.toks) k', Imm.of_keeps k', q⟩
theorem sim_set0 : SimL prog w TS n A env (fun vs => call (.type "set") vs) VRel pset0 := fun c σ s as xs W h ras Q E q => by
  unfold pset0 at q; split at q
  · cases ras.nil_inv
    refine call_set_0 fun led => alloc_post (tk := s.toks) h (o := .set (fun _ => false) 0) (fun b o e => Heap.get?_push_of_some _ e) ⟨Nat.zero_le _, ?_⟩ q
    exact ⟨_, #[], 0, _, Heap.get?_push_size _ rfl, ⟨rfl, rfl, rfl⟩, rfl, fun e he => by simp at he, fun k => by simp, by decide, by rfl, rfl⟩
  · exact q.elim
theorem sim_intof : SimL prog w TS n A env (fun vs => call (.type "int") vs) VRel pintof := fun c σ s as xs W h ras Q E q => by
  unfold pintof at q; split at q
  · obtain ⟨y, rfl, ry⟩ := ras.one_inv; obtain ⟨t, rfl⟩ := ry.int_inv
    exact call_int_int ⟨_, σ, .int _ _, h, Imm.refl _, q⟩
  · exact q.elim
theorem sim_range1 : SimL prog w TS n A env (fun vs => call (.type "range") vs) VRel prange1 := fun c σ s as xs W h ras Q E q => by
  unfold prange1 at q; split at q
  · obtain ⟨y, rfl, ry⟩ := ras.one_inv; obtain ⟨t, rfl⟩ := ry.int_inv
    refine call_range_1 ⟨_, σ, .rng (Heap.get?_push_size _ rfl), h.keeps fun b o e => Heap.get?_push_of_some _ e, Imm.of_keeps fun b o e => Heap.get?_push_of_some _ e, q⟩
  · exact q.elim
theorem entry_iter9 : entryFor table "iter" = some Builtin.«iter» := entryFor_of_fast (by kernel_rfl)
theorem args_iter9 (a : Value) : argsOk "iter" ⟨[a], []⟩ := by unfold argsOk; kernel_rfl
theorem sim_iter : SimL prog w TS n A env (fun vs => call (.builtin "iter") vs) VRel piter := fun c σ s as xs W h ras Q E q => by
  obtain ⟨_, rfl, q⟩ := on1_inv q
  obtain ⟨a, rfl, q⟩ := onR_inv q
  · obtain ⟨ys, e, q⟩ := q
    obtain ⟨y, rfl, ry⟩ := ras.one_inv; cases ry.ref_inv
    obtain ⟨hz', it, n1, l1, r1⟩ := h.list_at e
    refine call_function_entry (by decide +kernel) (by decide +kernel) entry_iter9 (args_iter9 _) ?_
    unfold Builtin.«iter»
    refine wpAny_bind (m := someArgs "iter" 1 2 _) (wpAny_of_eq (a := [Value.ref a]) (by first | rfl | kernel_rfl!) ?_)
    show wpAny _ _ (pyIter (.ref a) >>= _) _ _ _
    refine wpAny_bind (wpAny_pyIter_list l1.isList ?_)
    exact wpAny_pure ⟨_, rfl, alloc_post (tk := s.toks) h (o := .iter a 0) (fun b o e => Heap.get?_push_of_some _ e) (Heap.get?_push_size _ rfl) q⟩
theorem eqGives_int (i k : Int) (t u : Tok) : MeetsSeq.EqGives (.int i t) (.int k u) (i == k) := fun prog w A E s Q h => wpAny_eqBool_int h
end
end Mine
end
noncomputable section
open PySem PySem.W PyProof.Rows PySem.Calls PySem.SeqAt
set_option Elab.async false
set_option linter.unusedVariables false
namespace Mine

/-- more objects guarded -/
abbrev Cx.more (c : Cx) (O : List (Addr × Obj)) : Cx := { c with G := O ++ c.G }

/-- an address free of the frame's, the top's and the guarded -/
def Free (c : Cx) (env : Env) (a : Addr) : Prop := (a ≠ env.locals ∧ ∀ y ∈ env.cells, y.2 ≠ a) ∧ c.base.get? a = none ∧ ∀ p ∈ c.G, p.1 ≠ a
structure NextOK (prog : Program) (w : World) (c : Cx) (A : Around) (env : Env) (tgt : Expr) (it : Value) (St : Nat → List (Addr × Obj) → Prop) (addrs : List Addr) (items : List LV) (g : LS → Prop) (h0 : Heap) : Prop where
  sub : ∀ i O, St i O → ∀ p ∈ O, p.1 ∈ addrs
  off : ∀ a ∈ addrs, a ≠ env.locals ∧ ∀ y ∈ env.cells, y.2 ≠ a
  item : ∀ i O σ s lv (P : Value → Shared → Prop) (E : Value → Shared → Prop), items[i]? = some lv → g σ → Imm h0 s.heap → St i O → Rel prog w (c.more O) env σ s →
    (∀ v s' O', VRel s'.heap lv v → St (i + 1) O' → Rel prog w (c.more O') env σ s' → Imm s.heap s'.heap → P v s') →
    wpAny (model prog w) A (pyNext it) (fun r s₁ => ∃ v, r = some v ∧ wpAny (model prog w) A (letOwnedTupleGo tgt it v) (fun _ s' => P v s') E s₁) E s
  self : ∀ i O σ s (Q : Value → Shared → Prop) (E : Value → Shared → Prop), St i O → Rel prog w (c.more O) env σ s → Q it s → wpAny (model prog w) A (pyIter it) Q E s
  done : ∀ O σ s (P : Option Value → Shared → Prop) (E : Value → Shared → Prop), g σ → Imm h0 s.heap → St items.length O → Rel prog w (c.more O) env σ s → (∀ s', Rel prog w c env σ s' → Imm s.heap s'.heap → P none s') → wpAny (model prog w) A (pyNext it) P E s

/-- an iterator at hand, whatever frame goes on with it -/
def ItOK (prog : Program) (w : World) (c : Cx) (A : Around) (env : Env) (tgt : Expr) (it : Value) (St : Nat → List (Addr × Obj) → Prop) (addrs : List Addr) (items : List LV) (g : LS → Prop) (h0 : Heap) : Prop :=
  (∀ a ∈ addrs, Free c env a ∧ a < h0.objs.size) ∧ ∀ c' env', c'.base = c.base → (∀ a ∈ addrs, Free c' env' a) → NextOK prog w c' A env' tgt it St addrs items g h0
theorem ItOK.own {prog : Program} {w : World} {c : Cx} {A : Around} {env : Env} {tgt : Expr} {it : Value} {St : Nat → List (Addr × Obj) → Prop} {addrs : List Addr} {items : List LV} {g : LS → Prop} {h0 : Heap} (k : ItOK prog w c A env tgt it St addrs items g h0) : NextOK prog w c A env tgt it St addrs items g h0 := k.2 c env rfl fun a ha => (k.1 a ha).1

def pforL (g : LS → Prop) (bind : LV → PTx Unit) (body orelse : PTx LF) : List LV → PTx LF
  | [] => fun Q E σ => g σ ∧ orelse Q E σ
  | v :: vs => fun Q E σ => g σ ∧ bind v (fun _ σ' => body (fun f σ'' => match f with | .next => pforL g bind body orelse vs Q E σ'' | .cont => pforL g bind body orelse vs Q E σ'' | .brk => Q .next σ'' | .ret v => Q (.ret v) σ'') E σ') E σ
/-- what an iterable gives: its items, and what must stand while it is gone through -/
abbrev LIt := List LV × (LS → Prop)
abbrev pfor (m : PTx LIt) (bind : LV → PTx Unit) (body orelse : PTx LF) : PTx LF := fun Q E σ => m (fun r σ' => pforL r.2 bind body orelse r.1 Q E σ') E σ

section
variable {prog : Program} {w : World} {TS : TopS} {c : Cx} {A : Around} {env : Env} {σ : LS} {s : Shared} {n : Nat}

theorem Rel.less {O : List (Addr × Obj)} (h : Rel prog w (c.more O) env σ s) : Rel prog w c env σ s :=
  ⟨h.keep, fun p hp => h.guard p (List.mem_append_right _ hp), h.ns, h.cell, h.cin, h.obj, fun a o e => let ⟨a1, a2, a3, a4⟩ := h.dom a o e; ⟨a1, a2, fun p hp => a3 p (List.mem_append_right _ hp), a4⟩, h.gens, h.os, h.drawn⟩
theorem Off.less {O : List (Addr × Obj)} {a : Addr} (o : Off (c.more O) σ a) : Off c σ a := ⟨o.1, o.2.1, fun p hp => o.2.2 p (List.mem_append_right _ hp)⟩
theorem ExcOb.less {O : List (Addr × Obj)} {σ : LS} {h : Heap} {x : LX} {ea : Addr} {oe : Obj} {vs : Array Value} (o : ExcOb (c.more O) σ h x ea oe vs) : ExcOb c σ h x ea oe vs := ⟨o.at_, o.cls, o.name, o.data, o.off.less, o.size, o.ctx⟩
theorem TbOb.less {O : List (Addr × Obj)} {σ : LS} {h : Heap} {fl : Value} {T : Addr} {oT : Obj} {ts : Array Value} (o : TbOb (c.more O) σ h fl T oT ts) : TbOb c σ h fl T oT ts := ⟨o.at_, o.cls, o.data, o.fl, o.off.less⟩
theorem ExcAt.less {O : List (Addr × Obj)} {σ : LS} {h : Heap} {x : LX} {e : Value} (y : ExcAt (c.more O) env σ h x e) : ExcAt c env σ h x e := by
  obtain ⟨ea, oe, vs, e1, ob, h1 | ⟨T, oT, ts, h1, tb⟩⟩ := y
  · exact ⟨ea, oe, vs, e1, ob.less, .inl h1⟩
  · exact ⟨ea, oe, vs, e1, ob.less, .inr ⟨T, oT, ts, h1, tb.less⟩⟩
theorem EPost.less {O : List (Addr × Obj)} {h0 : Heap} {E : LX → LS → Prop} {v : Value} {s' : Shared} (p : EPost prog w (c.more O) env h0 E v s') : EPost prog w c env h0 E v s' := by
  obtain ⟨x, σ', a, b, d, e⟩ := p; exact ⟨x, σ', a.less, b.less, d, e⟩
theorem WF.more {O : List (Addr × Obj)} (W : WF TS n c A env) (h : ∀ p ∈ O, p.1 ≠ env.locals ∧ ∀ y ∈ env.cells, y.2 ≠ p.1) : WF TS n (c.more O) A env where
  sep := ⟨W.sep.above, fun p hp => (List.mem_append.mp hp).elim (fun q => (h p q).1) (W.sep.gL p), W.sep.cellL, W.sep.cellB, W.sep.cellU, fun p hp y hy hlt => (List.mem_append.mp hp).elim (fun q => Ne.symm ((h p q).2 y hy)) fun q => W.sep.gOwn p q y hy hlt, W.sep.kind, W.sep.glob, W.sep.bui⟩
  room := W.room
  units := W.units
  top := W.top
  frl := W.frl
  hand := fun q e0 h0 => let ⟨o, vs, a, b⟩ := W.hand q e0 h0; ⟨o, vs, List.mem_append_right _ a, b⟩
  fr := fun q => let ⟨outer, a, b⟩ := W.fr q; ⟨outer, a, fun e he => let ⟨k1, L, o, k2, k3, k4⟩ := b e he; ⟨k1, L, o, k2, List.mem_append_right _ k3, k4⟩⟩

/-- an object newly made, guarded -/
theorem Rel.guardNew (h : Rel prog w c env σ s) {h' : Heap} {tk : Nat} {o ob : Obj} (k : ∀ b o, s.heap.get? b = some o → h'.get? b = some o) (e : h'.get? s.heap.objs.size = some ob) (e1 : ob.cls = o.cls) (e2 : ob.data = o.data) (e3 : exactO o = true → ob = o) :
    Rel prog w (c.more [(s.heap.objs.size, o)]) env σ { s with heap := h', toks := tk } := by
  have q := h.keeps (tk := tk) k
  refine ⟨q.keep, fun p hp => ?_, q.ns, q.cell, q.cin, q.obj, fun a o e => ?_, q.gens, q.os, q.drawn⟩
  · rcases List.mem_append.mp hp with hp | hp
    · rw [List.mem_singleton.mp hp]; exact ⟨ob, e, e1, e2, e3⟩
    · exact q.guard p hp
  · obtain ⟨a1, a2, a3, a4⟩ := h.dom a o e
    refine ⟨a1, a2, fun p hp => ?_, a4⟩
    rcases List.mem_append.mp hp with hp | hp
    · rw [List.mem_singleton.mp hp]
      obtain ⟨ob', e', _⟩ := (h.obj a o e).notImm
      exact Nat.ne_of_gt (Heap.lt_size e')
    · exact a3 p hp
/-- a guarded object turned -/
theorem Rel.reguard {I : Addr} {o o' ob : Obj} (hI : I ≠ env.locals ∧ ∀ y ∈ env.cells, y.2 ≠ I) (hb : c.base.get? I = none) (hg : ∀ p ∈ c.G, p.1 ≠ I) (h : Rel prog w (c.more [(I, o)]) env σ s) {h' : Heap} {tk : Nat} (ni : immObj { o with slots := #[] } = false) (k : Heap.ExtBut I s.heap h') (e : h'.get? I = some ob) (e1 : ob.cls = o'.cls) (e2 : ob.data = o'.data) (e3 : exactO o' = true → ob = o') :
    Rel prog w (c.more [(I, o')]) env σ { s with heap := h', toks := tk } ∧ Imm s.heap h' := by
  obtain ⟨og, g, g1, g2, _⟩ := h.guard (I, o) (List.mem_append_left _ (.head _))
  have ni' : ∀ o, s.heap.get? I = some o → immObj o = false := fun o9 q => by
    rw [g] at q; cases q
    unfold immObj at ni ⊢; rw [g2]; simp only at ni ⊢; rw [g1]; exact ni
  have hσ : σ.heap I = none := by
    cases q : σ.heap I with
    | none => rfl
    | some o9 => exact absurd rfl ((h.dom I o9 q).2.2.1 (I, o) (List.mem_append_left _ (.head _)))
  have q := h.less.extBut (tk := tk) k ni' hb hI.1 hg hI.2 hσ
  refine ⟨⟨q.keep, fun p hp => ?_, q.ns, q.cell, q.cin, q.obj, fun a o9 e9 => ?_, q.gens, q.os, q.drawn⟩, Imm.of_extBut k ni'⟩
  · rcases List.mem_append.mp hp with hp | hp
    · rw [List.mem_singleton.mp hp]; exact ⟨ob, e, e1, e2, e3⟩
    · exact q.guard p hp
  · obtain ⟨a1, a2, a3, a4⟩ := h.dom a o9 e9
    refine ⟨a1, a2, fun p hp => ?_, a4⟩
    rcases List.mem_append.mp hp with hp | hp
    · rw [List.mem_singleton.mp hp]; exact a3 (I, o) (List.mem_append_left _ (.head _))
    · exact a3 p (List.mem_append_right _ hp)
theorem Rel.unguard {I : Addr} {o : Obj} (hI : I ≠ env.locals ∧ ∀ y ∈ env.cells, y.2 ≠ I) (hb : c.base.get? I = none) (hg : ∀ p ∈ c.G, p.1 ≠ I) (h : Rel prog w (c.more [(I, o)]) env σ s) {h' : Heap} {tk : Nat} (ni : immObj { o with slots := #[] } = false) (k : Heap.ExtBut I s.heap h') :
    Rel prog w c env σ { s with heap := h', toks := tk } ∧ Imm s.heap h' := by
  obtain ⟨og, g, g1, g2, _⟩ := h.guard (I, o) (List.mem_append_left _ (.head _))
  have ni' : ∀ o, s.heap.get? I = some o → immObj o = false := fun o9 q => by
    rw [g] at q; cases q
    unfold immObj at ni ⊢; rw [g2]; simp only at ni ⊢; rw [g1]; exact ni
  have hσ : σ.heap I = none := by
    cases q : σ.heap I with
    | none => rfl
    | some o9 => exact absurd rfl ((h.dom I o9 q).2.2.1 (I, o) (List.mem_append_left _ (.head _)))
  exact ⟨h.less.extBut (tk := tk) k ni' hb hI.1 hg hI.2 hσ, Imm.of_extBut k ni'⟩

/-- an iterable: evaluated, its iterator made -/
def SimIt (prog : Program) (w : World) (TS : TopS) (n : Nat) (A : Around) (env : Env) (tgt iter : Expr) (m : PTx LIt) : Prop :=
  ∀ c σ s, WF TS n c A env → Rel prog w c env σ s → ∀ Q E, m Q E σ →
    wpAny (model prog w) A (eval iter env) (fun x s₁ => wpAny (model prog w) A (pyIter x) (fun it s₂ => ∃ St addrs r σ' O, ItOK prog w c A env tgt it St addrs r.1 r.2 s₂.heap ∧ St 0 O ∧ Rel prog w (c.more O) env σ' s₂ ∧ Imm s.heap s₂.heap ∧ Q r σ') (EPost prog w c env s.heap E) s₁) (EPost prog w c env s.heap E) s

theorem for_step {R : Result → Shared → Prop} {tgt : Expr} {it : Value} {body orelse : List Stmt}
    (h : wpAny (model prog w) A (pyNext it) (fun r s₁ => match r with
      | none => wpAny (model prog w) A (execs orelse env) (fun f s₃ => R (.ok f) s₃) (notedBy (model prog w) A env fun e s' => R (.error e) s') s₁
      | some v => wpAny (model prog w) A (letOwnedTupleGo tgt it v) (fun _ s₂ => wpAny (model prog w) A (assign tgt env v) (fun _ s₃ => wpAny (model prog w) A (execs body env) (fun f s₄ => match f with
          | .next => codeAny (model prog w) A (.forLoop tgt it body orelse env) R s₄
          | .cont => codeAny (model prog w) A (.forLoop tgt it body orelse env) R s₄
          | .brk => R (.ok .next) s₄
          | .ret v => R (.ok (.ret v)) s₄) (notedBy (model prog w) A env fun e s' => R (.error e) s') s₃) (notedBy (model prog w) A env fun e s' => R (.error e) s') s₂) (notedBy (model prog w) A env fun e s' => R (.error e) s') s₁) (notedBy (model prog w) A env fun e s' => R (.error e) s') s) :
    codeAny (model prog w) A (.forLoop tgt it body orelse env) R s := by
  refine codeAny_of_tree ?_
  show wpAny _ A ((forTurn tgt it body orelse env).onRaise (fun x => do noteFrame x env; theTreesLotGoes x)) _ _ s
  refine wpAny_noted ?_
  simp only [forTurn]
  refine wpAny_bind (wpAny_standAt (wpAny_bind (wpAny_onRaise (wpAny_mono h (fun r s₁ h₁ => ?_) fun _ _ x => wpAny_standAt x))))
  cases r with
  | none => exact wpAny_pure ⟨rfl, codeAny_block h₁⟩
  | some v =>
    refine wpAny_bind (wpAny_mono h₁ (fun _ s₂ h₂ => wpAny_bind (wpAny_mono h₂ (fun _ s₃ h₃ => wpAny_bind (wpAny_mono h₃ (fun f s₄ h₄ => ?_) fun _ _ x => x)) fun _ _ x => x)) fun _ _ x => x)
    cases f with
    | next => exact wpAny_pure ⟨rfl, h₄⟩
    | cont => exact wpAny_pure ⟨rfl, h₄⟩
    | brk => exact wpAny_pure h₄
    | ret v => exact wpAny_pure h₄

theorem sim_For {tgt iter : Expr} {body orelse : List Stmt} {pos : Pos} {m : PTx LIt} {bind : LV → PTx Unit} {mb mo : PTx LF} (hf : env.frame = some env.locals) (hi : SimIt prog w TS n A env tgt iter m) (ht : Sim1 prog w TS n A env (assign tgt env) REq bind) (hb : Sim prog w TS n A env (execs body env) FlRel mb) (ho : Sim prog w TS n A env (execs orelse env) FlRel mo)
    (hs : ∀ x, foldedSetIterable iter env x = pure x) : Sim prog w TS n A env (exec (.For tgt iter body orelse pos) env) FlRel (pfor m bind mb mo) := fun c σ s W h Q E q => by
  have pass := passes (prog := prog) (w := w) (A := A) (h0 := s.heap) (E := E) W hf
  refine wpAny_For (wpAny_mono (hi c σ s W h _ E q) (fun x s₁ p => wpAny_mono p (fun it s₂ p => ?_) fun _ _ x => x) fun _ _ x => x) hs
  obtain ⟨St, addrs, ⟨items, g⟩, σ', O₀, iok, st₀, h₂, i₂, q₂⟩ := p
  dsimp only at iok q₂
  have ok := iok.own
  obtain ⟨R, hok, herr, fin⟩ : ∃ R : Result → Shared → Prop, (∀ f s', Post prog w c env FlRel s.heap Q f s' → R (.ok f) s') ∧ (∀ e s', EPost prog w c env s.heap E e s' → notedBy (model prog w) A env (fun e s' => R (.error e) s') e s') ∧
      (∀ s', codeAny (model prog w) A (.forLoop tgt it body orelse env) R s' → codeAny (model prog w) A (.forLoop tgt it body orelse env) (fun r s' => match r with | .ok f => Post prog w c env FlRel s.heap Q f s' | .error e => cameBackBy (model prog w) A env (EPost prog w c env s.heap E) e s') s') :=
    ⟨fun r s' => match r with | .ok f => Post prog w c env FlRel s.heap Q f s' | .error e => cameBackBy (model prog w) A env (EPost prog w c env s.heap E) e s', fun _ _ p => p, fun e s' p => pass e s' p, fun _ p => p⟩
  refine fin _ ?_
  have key : ∀ (k : Nat) (i : Nat), items.length - i = k → i ≤ items.length → ∀ O σ₁ s₁, St i O → Rel prog w (c.more O) env σ₁ s₁ → Imm s₂.heap s₁.heap → pforL g bind mb mo (items.drop i) Q E σ₁ →
      codeAny (model prog w) A (.forLoop tgt it body orelse env) R s₁ := by
    intro k
    induction k with
    | zero =>
      intro i hk hle O σ₁ s₁ st₁ h₁ i₁ q₁
      obtain rfl : i = items.length := by omega
      rw [List.drop_length] at q₁
      obtain ⟨g₁, q₁⟩ := q₁
      exact for_step (ok.done O σ₁ s₁ _ _ g₁ i₁ st₁ h₁ fun s₃ h₃ i₃ => wpAny_mono ((ho c σ₁ s₃ W h₃).fin ((i₂.trans i₁).trans i₃) q₁) (fun _ _ p => hok _ _ p) herr)
    | succ k ih =>
      intro i hk hle O σ₁ s₁ st₁ h₁ i₁ q₁
      have hlt : i < items.length := by omega
      rw [List.drop_eq_getElem_cons hlt] at q₁
      obtain ⟨g₁, q₁⟩ := q₁
      have W' : ∀ O', St (i + 1) O' → WF TS n (c.more O') A env := fun O' st' => W.more fun p hp => ok.off _ (ok.sub (i + 1) O' st' p hp)
      refine for_step (wpAny_mono (ok.item i O σ₁ s₁ items[i] (fun v s₂ => wpAny (model prog w) A (assign tgt env v) (fun _ s₃ => wpAny (model prog w) A (execs body env) (fun f s₄ => match f with
          | .next => codeAny (model prog w) A (.forLoop tgt it body orelse env) R s₄
          | .cont => codeAny (model prog w) A (.forLoop tgt it body orelse env) R s₄
          | .brk => R (.ok .next) s₄
          | .ret v => R (.ok (.ret v)) s₄) (notedBy (model prog w) A env fun e s' => R (.error e) s') s₃) (notedBy (model prog w) A env fun e s' => R (.error e) s') s₂) _ (by simp [hlt]) g₁ i₁ st₁ h₁ fun v s₉ O' rv st₉ h₉ i₉ => ?_) (fun r s₉ p => ?_) fun _ _ x => x)
      · refine wpAny_mono ((ht _ σ₁ s₉ _ _ (W' O' st₉) h₉ rv).go ((i₂.trans i₁).trans i₉) q₁ fun _ _ σ₃ s₃ _ h₃ i₃ j₃ q₃ => wpAny_mono ((hb _ σ₃ s₃ (W' O' st₉) h₃).go i₃ q₃ (P := fun f s₄ => match f with
          | .next => codeAny (model prog w) A (.forLoop tgt it body orelse env) R s₄
          | .cont => codeAny (model prog w) A (.forLoop tgt it body orelse env) R s₄
          | .brk => R (.ok .next) s₄
          | .ret v => R (.ok (.ret v)) s₄) fun f v σ₄ s₄ rf h₄ i₄ j₄ q₄ => ?_) (fun _ _ x => x) fun _ _ x => herr _ _ x.less) (fun _ _ x => x) fun _ _ x => herr _ _ x.less
        cases rf with
        | next => exact ih (i + 1) (by omega) hlt O' σ₄ s₄ st₉ h₄ (((i₁.trans i₉).trans j₃).trans j₄) q₄
        | brk => exact hok _ _ ⟨_, σ₄, .next, h₄.less, i₄, q₄⟩
        | cont => exact ih (i + 1) (by omega) hlt O' σ₄ s₄ st₉ h₄ (((i₁.trans i₉).trans j₃).trans j₄) q₄
        | ret r => exact hok _ _ ⟨_, σ₄, .ret r, h₄.less, i₄, q₄⟩
      · obtain ⟨v, rfl, p⟩ := p
        exact p
  exact key _ 0 rfl (Nat.zero_le _) O₀ σ' s₂ st₀ h₂ (Imm.refl _) (by simpa using q₂)
end
end Mine
end
noncomputable section
open PySem PySem.W PyProof.Rows PySem.Calls PySem.SeqAt
set_option Elab.async false
set_option linter.unusedVariables false
namespace Mine

def pitems : LV → PTx LIt
  | .ref a => fun Q _ σ => ∃ xs, σ.heap a = some (.list xs) ∧ Q (xs, fun σ => σ.heap a = some (.list xs)) σ
  | _ => pfail
def ptitems : LV → PTx LIt
  | .tup vs => fun Q _ σ => vs.length ≤ cap ∧ Q (vs, fun _ => True) σ
  | _ => pfail
def rngList (a c : Int) (m : Nat) : List LV := (List.range m).map fun (i : Nat) => LV.int (a + i * c)
def pritems : LV → PTx LIt
  | .rng a b c => fun Q _ σ => (-(2 ^ 20) ≤ a ∧ a ≤ 2 ^ 20 ∧ -(2 ^ 20) ≤ b ∧ b ≤ 2 ^ 20 ∧ c = 1) ∧ Q (rngList a c (Builtin.Range.rangeSize a b c).toNat, fun _ => True) σ
  | _ => pfail
def pkeys : LV → PTx LIt
  | .ref a => fun Q _ σ => ∃ es ep, σ.heap a = some (.dict es ep) ∧ Q (es.map fun kv => LV.int kv.1, fun σ => σ.heap a = some (.dict es ep)) σ
  | _ => pfail
def pvals : LV → PTx LIt
  | .ref a => fun Q _ σ => ∃ es ep, σ.heap a = some (.dict es ep) ∧ Q (es.map fun kv => kv.2, fun σ => σ.heap a = some (.dict es ep)) σ
  | _ => pfail
def pents : LV → PTx LIt
  | .ref a => fun Q _ σ => ∃ es ep, σ.heap a = some (.dict es ep) ∧ Q (es.map fun kv => LV.tup [.int kv.1, kv.2], fun σ => σ.heap a = some (.dict es ep)) σ
  | _ => pfail
def penum : LV → PTx LIt
  | .ref a => fun Q _ σ => ∃ xs, σ.heap a = some (.list xs) ∧ Q (xs.zipIdx.map fun vi => LV.tup [.int vi.2, vi.1], fun σ => σ.heap a = some (.list xs)) σ
  | _ => pfail
def prev : LV → PTx LIt
  | .ref a => fun Q _ σ => ∃ xs, σ.heap a = some (.list xs) ∧ Q (xs.reverse, fun σ => σ.heap a = some (.list xs)) σ
  | _ => pfail
def prevr : LV → PTx LIt
  | .rng a b c => fun Q _ σ => (a = 0 ∧ c = 1 ∧ 0 ≤ b ∧ b ≤ 2 ^ 20) ∧ Q (((List.range b.toNat).map fun (i : Nat) => LV.int (i : Int)).reverse, fun _ => True) σ
  | _ => pfail

abbrev lIterObj (a : Addr) (i : Nat) : Obj := { cls := .type "list_iterator", data := .fields #[.ref a, .int i 0] }

section
variable {prog : Program} {w : World} {TS : TopS} {c : Cx} {A : Around} {env : Env} {σ : LS} {s : Shared} {n : Nat}

theorem Rel.fresh_off (h : Rel prog w c env σ s) : s.heap.objs.size ≠ env.locals ∧ ∀ y ∈ env.cells, y.2 ≠ s.heap.objs.size := ⟨h.fresh_loc, h.fresh_cell⟩

/-- one iterator object at I, its turns by a rule -/
theorem itOK_one {tgt : Expr} {I : Addr} {O : Nat → Obj} {items : List LV} {g : LS → Prop} {h0 : Heap} (hf : Free c env I) (hlt : I < h0.objs.size) (ni : ∀ i, immObj { O i with slots := #[] } = false)
    (hitem : ∀ (c' : Cx) env' i σ s lv (Q : Option Value → Shared → Prop) (E : Value → Shared → Prop), items[i]? = some lv → g σ → Imm h0 s.heap → Rel prog w (c'.more [(I, O i)]) env' σ s →
      (∀ v h' tk ob, Heap.ExtBut I s.heap h' → h'.get? I = some ob → ob.cls = (O (i + 1)).cls → ob.data = (O (i + 1)).data → (exactO (O (i + 1)) = true → ob = O (i + 1)) → (Imm s.heap h' → VRel h' lv v) → Q (some v) { s with heap := h', toks := tk }) → wpAny (model prog w) A (pyNext (.ref I)) Q E s)
    (hlet : ∀ i s v (Q : Unit → Shared → Prop) (E : Value → Shared → Prop) ob, s.heap.get? I = some ob → ob.cls = (O i).cls → ob.data = (O i).data → (exactO (O i) = true → ob = O i) → Q () s → wpAny (model prog w) A (letOwnedTupleGo tgt (.ref I) v) Q E s)
    (hself : ∀ i s (Q : Value → Shared → Prop) (E : Value → Shared → Prop) ob, s.heap.get? I = some ob → ob.cls = (O i).cls → ob.data = (O i).data → (exactO (O i) = true → ob = O i) → Q (.ref I) s → wpAny (model prog w) A (pyIter (.ref I)) Q E s)
    (hdone : ∀ (c' : Cx) env' σ s (Q : Option Value → Shared → Prop) (E : Value → Shared → Prop), g σ → Imm h0 s.heap → Rel prog w (c'.more [(I, O items.length)]) env' σ s → (∀ h' tk, Heap.ExtBut I s.heap h' → Q none { s with heap := h', toks := tk }) → wpAny (model prog w) A (pyNext (.ref I)) Q E s) :
    ItOK prog w c A env tgt (.ref I) (fun i L => L = [(I, O i)]) [I] items g h0 := by
  refine ⟨fun a ha => by rw [List.mem_singleton.mp ha]; exact ⟨hf, hlt⟩, fun c' env' hcb hfr => ?_⟩
  have hI := (hfr I (.head _))
  exact {
  sub := fun i L hL p hp => by subst hL; rw [List.mem_singleton.mp hp]; exact .head _
  off := fun a ha => by rw [List.mem_singleton.mp ha]; exact hI.1
  item := fun i L σ s lv P E hx gg im0 hL h k => by
    subst hL
    refine hitem c' env' i σ s lv _ E hx gg im0 h fun v h' tk ob ke e e1 e2 e3 rv => ?_
    obtain ⟨r, im⟩ := Rel.reguard (tk := tk) hI.1 hI.2.1 hI.2.2 h (ni i) ke e e1 e2 e3
    exact ⟨v, rfl, hlet (i + 1) _ v _ E ob e e1 e2 e3 (k v _ _ (rv im) rfl r im)⟩
  self := fun i L σ s Q E hL h q => by
    subst hL
    obtain ⟨og, g0, g1, g2, g3⟩ := h.guard (I, O i) (List.mem_append_left _ (.head _))
    exact hself i s Q E og g0 g1 g2 g3 q
  done := fun L σ s P E gg im0 hL h k => hdone c' env' σ s P E gg im0 (hL ▸ h) fun h' tk ke => by
    subst hL
    obtain ⟨r, im⟩ := Rel.unguard (tk := tk) hI.1 hI.2.1 hI.2.2 h (ni _) ke
    exact k _ r im }

theorem Rel.it_at {I : Addr} {o : Obj} (h : Rel prog w (c.more [(I, o)]) env σ s) : ∃ ob, s.heap.get? I = some ob ∧ ob.cls = o.cls ∧ ob.data = o.data ∧ (exactO o = true → ob = o) := h.guard (I, o) (List.mem_append_left _ (.head _))

/-- a list's iterator lets nothing go -/
theorem let_list {tgt : Expr} {I : Addr} {v : Value} {ob : Obj} {vs : Array Value} {nm : String} {Q : Unit → Shared → Prop} {E : Value → Shared → Prop} (e : s.heap.get? I = some ob) (e1 : ob.cls = .type nm) (e2 : ob.data = .fields vs)
    (hn : ["enumerate", "zip", "dict_itemiterator", "dict_reverseitemiterator", "odict_iterator", "itertools.zip_longest", "itertools.pairwise"].contains nm = false) (q : Q () s) : wpAny (model prog w) A (letOwnedTupleGo tgt (.ref I) v) Q E s := by
  have aux : ∀ a : Addr, wpAny (model prog w) A (do
      let o ← load I
      match o.cls, o.data with
      | .type n, .fields vs =>
        if ["enumerate", "zip", "dict_itemiterator", "dict_reverseitemiterator", "odict_iterator", "itertools.zip_longest", "itertools.pairwise"].contains n && vs[0]? == some (rawInt a) then
          rule "for.unpacks-the-owned-tuple"
          updateField I 0 .none
      | _, _ => pure ()) Q E s := fun a => by
    refine wpAny_bind (wpAny_load e ?_)
    rw [e1, e2]
    simp only [hn, Bool.false_and, Bool.false_eq_true, if_false]
    exact wpAny_pure q
  cases tgt <;> first | exact wpAny_pure q | (cases v <;> first | exact aux _ | exact wpAny_pure q)

theorem it_list {tgt iter : Expr} {m : PTx LV} (hh : A.handled = none) (hm : Sim prog w TS n A env (eval iter env) VRel m) : SimIt prog w TS n A env tgt iter (pbind m pitems) := fun c σ s W h Q E q => by
  refine (hm c σ s W h).go (Imm.refl _) q fun v x σ₁ s₁ rv h₁ i₁ j₁ q₁ => ?_
  unfold pitems at q₁; split at q₁
  · obtain ⟨xs, e, q₁⟩ := q₁
    cases rv.ref_inv
    rename_i a
    obtain ⟨hz, it, n1, l1, r1⟩ := h₁.list_at e
    refine wpAny_pyIter_list l1.isList ?_
    have k : ∀ b o, s₁.heap.get? b = some o → (s₁.heap.push (lIterObj a 0)).get? b = some o := fun b o e => Heap.get?_push_of_some _ e
    refine ⟨_, _, _, σ₁, _, itOK_one (I := s₁.heap.objs.size) (O := fun i => lIterObj a i) ⟨h₁.fresh_off, h₁.fresh_base, h₁.fresh_G⟩ (Heap.lt_size (Heap.get?_push_size _ rfl)) (fun _ => rfl) ?_ ?_ ?_ ?_, rfl, h₁.guardNew (tk := s₁.toks) k (Heap.get?_push_size _ rfl) rfl rfl (fun q => nomatch q), i₁.trans (Imm.of_keeps k), q₁⟩
    · intro c' env' i σ₂ s₂ lv Q' E' hx gg im₂ h₂ kk
      obtain ⟨hz, it, n1, l1, r1⟩ := h₂.list_at gg
      obtain ⟨ob, o1, o2, o3, _⟩ := h₂.it_at
      obtain ⟨u, h1, h2⟩ := r1.getA hx
      exact wpAny_pyNext_list_item ⟨ob, o1, o2, o3⟩ l1.isList h1 fun h' hit hs => by
        obtain ⟨ob', p1, p2, p3⟩ := hit
        exact kk u h' s₂.toks ob' hs.extBut p1 p2 p3 (fun q => nomatch q) fun im => h2.imm im
    · intro i s₂ v Q' E' ob o1 o2 o3 _ q'
      exact let_list o1 o2 o3 (by decide) q'
    · intro i s₂ Q' E' ob o1 o2 o3 o4 q'
      exact wpAny_pyIter_listiter (i := i) ⟨ob, o1, o2, o3⟩ q'
    · intro c' env' σ₂ s₂ Q' E' gg im₂ h₂ kk
      obtain ⟨hz, it, n1, l1, r1⟩ := h₂.list_at gg
      obtain ⟨ob, o1, o2, o3, _⟩ := h₂.it_at
      exact wpAny_pyNext_list_end hh ⟨ob, o1, o2, o3⟩ l1.isList (by rw [← r1.sizeA]; simp) fun h' hs => kk h' s₂.toks hs
  · exact q₁.elim
theorem it_tuple {tgt iter : Expr} {m : PTx LV} (hh : A.handled = none) (hm : Sim prog w TS n A env (eval iter env) VRel m) : SimIt prog w TS n A env tgt iter (pbind m ptitems) := fun c σ s W h Q E q => by
  refine (hm c σ s W h).go (Imm.refl _) q fun v x σ₁ s₁ rv h₁ i₁ j₁ q₁ => ?_
  unfold ptitems at q₁; split at q₁
  · obtain ⟨hz, q₁⟩ := q₁
    obtain ⟨t, items, n2, rfl, e2, r2⟩ := rv.tup_inv
    refine wpAny_pyIter_tuple ⟨_, e2, rfl, _, rfl⟩ ?_
    have k : ∀ b o, s₁.heap.get? b = some o → (s₁.heap.push { cls := .type "tuple_iterator", data := .fields #[.ref t, .int 0 0] }).get? b = some o := fun b o e => Heap.get?_push_of_some _ e
    have ik := Imm.of_keeps k
    refine ⟨_, _, _, σ₁, _, itOK_one (I := s₁.heap.objs.size) (O := fun i => { cls := .type "tuple_iterator", data := .fields #[.ref t, .int i 0] }) ⟨h₁.fresh_off, h₁.fresh_base, h₁.fresh_G⟩ (Heap.lt_size (Heap.get?_push_size _ rfl)) (fun _ => rfl) ?_ ?_ ?_ ?_, rfl, h₁.guardNew (tk := s₁.toks) k (Heap.get?_push_size _ rfl) rfl rfl (fun q => nomatch q), i₁.trans ik, q₁⟩
    · intro c' env' i σ₂ s₂ lv Q' E' hx gg im₂ h₂ kk
      have e3 := im₂ _ _ (k _ _ e2) rfl
      have r3 := (r2.imm ik).imm im₂
      obtain ⟨ob, o1, o2, o3, _⟩ := h₂.it_at
      obtain ⟨u, h1, h2⟩ := r3.get hx
      exact wpAny_pyNext_tuple_item ⟨ob, o1, o2, o3⟩ ⟨_, e3, rfl, _, rfl⟩ (by simpa using h1) fun h' hit hs => by
        obtain ⟨ob', p1, p2, p3⟩ := hit
        exact kk u h' s₂.toks ob' hs.extBut p1 p2 p3 (fun q => nomatch q) fun im => h2.imm im
    · intro i s₂ v Q' E' ob o1 o2 o3 _ q'
      exact let_list o1 o2 o3 (by decide) q'
    · intro i s₂ Q' E' ob o1 o2 o3 o4 q'
      exact wpAny_pyIter_tupleiter (i := i) ⟨ob, o1, o2, o3⟩ q'
    · intro c' env' σ₂ s₂ Q' E' gg im₂ h₂ kk
      have e3 := im₂ _ _ (k _ _ e2) rfl
      obtain ⟨ob, o1, o2, o3, _⟩ := h₂.it_at
      exact wpAny_pyNext_tuple_end hh ⟨ob, o1, o2, o3⟩ ⟨_, e3, rfl, _, rfl⟩ (by have := r2.length; simp; omega) fun h' hs => kk h' s₂.toks hs
  · exact q₁.elim
theorem rngSize_le {a b c : Int} (h : -(2 ^ 20) ≤ a ∧ a ≤ 2 ^ 20 ∧ -(2 ^ 20) ≤ b ∧ b ≤ 2 ^ 20 ∧ c = 1) : 0 ≤ Builtin.Range.rangeSize a b c ∧ Builtin.Range.rangeSize a b c ≤ 2 ^ 21 ∧ Builtin.Range.small a b c = true := by
  obtain ⟨h1, h2, h3, h4, rfl⟩ := h
  refine ⟨?_, ?_, small_one (by omega) (by omega) (by omega) (by omega)⟩ <;>
  · unfold Builtin.Range.rangeSize
    simp only [show ((1 : Int) > 0) = True from by simp, if_true]
    split <;> omega
theorem it_range {tgt iter : Expr} {m : PTx LV} (hh : A.handled = none) (hm : Sim prog w TS n A env (eval iter env) VRel m) : SimIt prog w TS n A env tgt iter (pbind m pritems) := fun c σ s W h Q E q => by
  refine (hm c σ s W h).go (Imm.refl _) q fun v x σ₁ s₁ rv h₁ i₁ j₁ q₁ => ?_
  unfold pritems at q₁; split at q₁
  · rename_i a b d
    obtain ⟨hc, q₁⟩ := q₁
    obtain ⟨z1, z2, z3⟩ := rngSize_le hc
    cases rv with
    | rng er =>
      refine wpAny_pyIter_range er z3 ?_
      obtain ⟨N, hN⟩ : ∃ N : Nat, Builtin.Range.rangeSize a b d = (N : Int) := ⟨(Builtin.Range.rangeSize a b d).toNat, by omega⟩
      rw [hN] at q₁ ⊢
      rw [Int.toNat_natCast] at q₁
      have k : ∀ b o, s₁.heap.get? b = some o → (s₁.heap.push { cls := .type "range_iterator", data := .fields #[rawInt a, rawInt N, rawInt d] }).get? b = some o := fun b o e => Heap.get?_push_of_some _ e
      refine ⟨_, _, _, σ₁, _, itOK_one (I := s₁.heap.objs.size) (O := fun i => { cls := .type "range_iterator", data := .fields #[rawInt (a + i * d), rawInt ((N : Int) - i), rawInt d] }) ⟨h₁.fresh_off, h₁.fresh_base, h₁.fresh_G⟩ (Heap.lt_size (Heap.get?_push_size _ rfl)) (fun _ => rfl) ?_ ?_ ?_ ?_, rfl, h₁.guardNew (tk := s₁.toks) k (Heap.get?_push_size _ rfl) rfl (by simp) (fun _ => by simp), i₁.trans (Imm.of_keeps k), q₁⟩
      · intro c' env' i σ₂ s₂ lv Q' E' hx gg im₂ h₂ kk
        obtain ⟨ob, o1, o2, o3, o4⟩ := h₂.it_at
        cases o4 rfl
        have hx' : i < N ∧ lv = .int (a + i * d) := by
          unfold rngList at hx
          rw [List.getElem?_map] at hx
          cases h3 : (List.range N)[i]? with
          | none => rw [h3] at hx; cases hx
          | some j =>
            obtain ⟨hlt, hv⟩ := List.getElem?_eq_some_iff.mp h3
            rw [h3] at hx
            simp at hlt hv
            subst hv
            exact ⟨hlt, by simpa using hx.symm⟩
        obtain ⟨hlt, rfl⟩ := hx'
        refine wpAny_pyNext_range_item o1 (by omega) fun h' hit hs => ?_
        have e1 : a + (i : Int) * d + d = a + ((i + 1 : Nat) : Int) * d := by rw [Int.natCast_add, Int.add_mul]; simp; omega
        have e2 : (N : Int) - (i : Int) - 1 = (N : Int) - ((i + 1 : Nat) : Int) := by omega
        rw [e1, e2] at hit
        exact kk _ h' _ _ hs.extBut hit rfl rfl (fun _ => rfl) fun im => .int _ _
      · intro i s₂ v Q' E' ob o1 o2 o3 _ q'
        exact let_list o1 o2 o3 (by decide) q'
      · intro i s₂ Q' E' ob o1 o2 o3 o4 q'
        cases o4 rfl; exact wpAny_pyIter_rangeiter o1 q'
      · intro c' env' σ₂ s₂ Q' E' gg im₂ h₂ kk
        obtain ⟨ob, o1, o2, o3, o4⟩ := h₂.it_at
        cases o4 rfl
        exact wpAny_pyNext_range_end hh o1 (by simp [rngList]) fun h' hs => kk h' s₂.toks hs
  · exact q₁.elim

theorem ERel.get {h : Heap} {es : List (Int × LV)} {kvs : List (Int × Value)} (r : ERel h es kvs) {i : Nat} {kv : Int × LV} (e : es[i]? = some kv) : ∃ v, kvs[i]? = some (kv.1, v) ∧ VRel h kv.2 v := by
  induction r generalizing i with
  | nil => cases e
  | @cons _ _ v _ _ x _ ih =>
    cases i with
    | zero => cases e; exact ⟨v, rfl, x⟩
    | succ i => exact ih e
theorem is_int {k : Int} {key : Value} (h : (intKind prog w).is k key = true) : ∃ t, key = .int k t := Value.isInt_shape h
theorem it_keys {tgt iter : Expr} {m : PTx LV} (hh : A.handled = none) (hm : Sim prog w TS n A env (eval iter env) VRel m) : SimIt prog w TS n A env tgt iter (pbind m pkeys) := fun c σ s W h Q E q => by
  refine (hm c σ s W h).go (Imm.refl _) q fun v x σ₁ s₁ rv h₁ i₁ j₁ q₁ => ?_
  unfold pkeys at q₁; split at q₁
  · obtain ⟨es, ep, e, q₁⟩ := q₁
    cases rv.ref_inv
    rename_i a
    obtain ⟨hz, kvs, d1, r1⟩ := h₁.dict_ep e
    have hl := r1.length
    refine wpAny_pyIter_dict (h₁.not_sysm W e) d1 ?_
    rw [← hl]
    have k : ∀ b o, s₁.heap.get? b = some o → (s₁.heap.push { cls := .type "dict_keyiterator", data := .fields #[.ref a, .int 0 0, .int es.length 0, .int ep 0] }).get? b = some o := fun b o e => Heap.get?_push_of_some _ e
    refine ⟨_, _, _, σ₁, _, itOK_one (I := s₁.heap.objs.size) (O := fun i => { cls := .type "dict_keyiterator", data := .fields #[.ref a, .int i 0, .int es.length 0, .int ep 0] }) ⟨h₁.fresh_off, h₁.fresh_base, h₁.fresh_G⟩ (Heap.lt_size (Heap.get?_push_size _ rfl)) (fun _ => rfl) ?_ ?_ ?_ ?_, rfl, h₁.guardNew (tk := s₁.toks) k (Heap.get?_push_size _ rfl) rfl rfl (fun q => nomatch q), i₁.trans (Imm.of_keeps k), q₁⟩
    · intro c' env' i σ₂ s₂ lv Q' E' hx gg im₂ h₂ kk
      obtain ⟨hz, kvs, d1, r1⟩ := h₂.dict_ep gg
      obtain ⟨ob, o1, o2, o3, _⟩ := h₂.it_at
      rw [List.getElem?_map] at hx
      cases h3 : es[i]? with
      | none => rw [h3] at hx; cases hx
      | some kv =>
        rw [h3] at hx; cases hx
        obtain ⟨u, h1, h2⟩ := r1.get h3
        exact wpAny_pyNext_dict_item ⟨ob, o1, o2, by rw [← r1.length]; exact o3⟩ d1 h1 fun key h' hk hit hs => by
          obtain ⟨ob', p1, p2, p3⟩ := hit
          obtain ⟨t, rfl⟩ := is_int hk
          exact kk _ h' s₂.toks ob' hs.extBut p1 p2 (by rw [r1.length]; exact p3) (fun q => nomatch q) fun im => .int _ _
    · intro i s₂ v Q' E' ob o1 o2 o3 _ q'
      exact let_list o1 o2 o3 (by decide) q'
    · intro i s₂ Q' E' ob o1 o2 o3 o4 q'
      exact wpAny_pyIter_keyiter (i := i) ⟨ob, o1, o2, o3⟩ q'
    · intro c' env' σ₂ s₂ Q' E' gg im₂ h₂ kk
      obtain ⟨hz, kvs, d1, r1⟩ := h₂.dict_ep gg
      obtain ⟨ob, o1, o2, o3, _⟩ := h₂.it_at
      refine wpAny_pyNext_dict_end hh ⟨ob, o1, o2, by rw [← r1.length]; exact o3⟩ d1 (by have := r1.length; simp; omega) fun h' hs => kk h' s₂.toks hs
  · exact q₁.elim
end
end Mine
end
noncomputable section
open PySem PySem.W PyProof.Rows PySem.Calls PySem.SeqAt
set_option Elab.async false
set_option linter.unusedVariables false
namespace Mine
section
variable {prog : Program} {w : World} {TS : TopS} {c : Cx} {A : Around} {env : Env} {σ : LS} {s : Shared} {n : Nat}

/-- a call of a method of a built-in type without arguments, up to the call -/
theorem meth0_go {o : Expr} {name : String} {T id : String} {apos pos : Pos} {mo : PTx LV} {ck : LV → PTx Unit} {K : LV → LS → Prop} {E : LX → LS → Prop} {P : Value → Shared → Prop} (pa : PlainAttrs T) (slot : Slot T (Str.ofString name) id) (hty : typeOf (.builtin id) = pure (.type "method_descriptor"))
    (hbase : attributeBase o (Str.ofString name) env (eval o env) = eval o env) (hline : (apos.endLine == pos.line) = true)
    (ho : Sim prog w TS n A env (eval o env) VRel mo) (hck : IsOf prog w T ck) (W : WF TS n c A env) (h : Rel prog w c env σ s) (q : (pbind mo fun a => pbind (ck a) fun _ => fun Q E σ => Q a σ) K E σ)
    (g : ∀ a x σ₁ s₁, VRel s₁.heap a x → Rel prog w c env σ₁ s₁ → Imm s.heap s₁.heap → K a σ₁ → wpAny (model prog w) A (call (.builtin id) [x]) P (EPost prog w c env s.heap E) s₁) :
    wpAny (model prog w) A (eval (.Call (.Attribute o (Str.ofString name) apos) [] [] pos) env) P (EPost prog w c env s.heap E) s := by
  refine wpAny_Call_method hbase rfl hline pa slot hty ((ho c σ s W h).go (Imm.refl _) q fun a x σ₁ s₁ ra h₁ i₁ j₁ q₁ => ?_)
  obtain ⟨t1, t2, q₂⟩ := hck c env σ₁ s₁ a x _ E h₁ ra q₁
  exact ⟨t1, t2, callWith_machine rfl rfl (spliced_nil (g a x σ₁ s₁ ra h₁ i₁ q₂))⟩

theorem it_vals {tgt o : Expr} {apos pos : Pos} {mo : PTx LV} (hh : A.handled = none) (hbase : attributeBase o (Str.ofString "values") env (eval o env) = eval o env) (hline : (apos.endLine == pos.line) = true) (ho : Sim prog w TS n A env (eval o env) VRel mo) :
    SimIt prog w TS n A env tgt (.Call (.Attribute o (Str.ofString "values") apos) [] [] pos) (pbind mo fun a => pbind (pisdict a) fun _ => pvals a) := fun c σ s W h Q E q => by
  refine meth0_go F.plainAttrs_dict F.slot_dict_values F.type_dict_values hbase hline ho isOf_dict W h (K := fun a σ => pvals a Q E σ) q fun v x σ₁ s₁ rv h₁ i₁ q₁ => ?_
  unfold pvals at q₁; split at q₁
  · obtain ⟨es, ep, e, q₁⟩ := q₁
    cases rv.ref_inv
    rename_i a
    obtain ⟨hz, kvs, d1, r1⟩ := h₁.dict_ep e
    have hl := r1.length
    refine call_meetsIn F.slot_dict_values d1.dictOf.typeIs F.entry_dict_values (F.args_dict_values_1 _) (meets_dict_values (intKind prog w) a (h₁.not_sysm W e)) ⟨⟨kvs, d1.dictOf⟩, ?_⟩
    have k0 : ∀ b o, s₁.heap.get? b = some o → (s₁.heap.push { cls := .type "dict_values", data := .fields #[.ref a] }).get? b = some o := fun b o e => Heap.get?_push_of_some _ e
    have h₂ := h₁.keeps (tk := s₁.toks) k0
    refine wpAny_pyIter_values ⟨_, Heap.get?_push_size _ rfl, rfl, rfl⟩ (d1.keep k0) ?_
    rw [← hl]
    have k : ∀ b o, (s₁.heap.push { cls := .type "dict_values", data := .fields #[.ref a] }).get? b = some o → ((s₁.heap.push { cls := .type "dict_values", data := .fields #[.ref a] }).push { cls := .type "dict_valueiterator", data := .fields #[.ref a, .int 0 0, .int es.length 0, .int ep 0] }).get? b = some o := fun b o e => Heap.get?_push_of_some _ e
    refine ⟨_, _, _, σ₁, _, itOK_one (I := (s₁.heap.push { cls := .type "dict_values", data := .fields #[.ref a] }).objs.size) (O := fun i => { cls := .type "dict_valueiterator", data := .fields #[.ref a, .int i 0, .int es.length 0, .int ep 0] }) ⟨h₂.fresh_off, h₂.fresh_base, h₂.fresh_G⟩ (Heap.lt_size (Heap.get?_push_size _ rfl)) (fun _ => rfl) ?_ ?_ ?_ ?_, rfl, h₂.guardNew (tk := s₁.toks) k (Heap.get?_push_size _ rfl) rfl rfl (fun q => nomatch q), (i₁.trans (Imm.of_keeps k0)).trans (Imm.of_keeps k), q₁⟩
    · intro c' env' i σ₂ s₂ lv Q' E' hx gg im₂ h₂ kk
      obtain ⟨hz, kvs, d1, r1⟩ := h₂.dict_ep gg
      obtain ⟨ob, o1, o2, o3, _⟩ := h₂.it_at
      rw [List.getElem?_map] at hx
      cases h3 : es[i]? with
      | none => rw [h3] at hx; cases hx
      | some kv =>
        rw [h3] at hx; cases hx
        obtain ⟨u, h1, h2⟩ := r1.get h3
        exact wpAny_pyNext_values_item ⟨ob, o1, o2, by rw [← r1.length]; exact o3⟩ d1 h1 fun h' hit hs => by
          obtain ⟨ob', p1, p2, p3⟩ := hit
          exact kk _ h' s₂.toks ob' hs.extBut p1 p2 (by rw [r1.length]; exact p3) (fun q => nomatch q) fun im => h2.imm im
    · intro i s₂ v Q' E' ob o1 o2 o3 _ q'
      exact let_list o1 o2 o3 (by decide) q'
    · intro i s₂ Q' E' ob o1 o2 o3 o4 q'
      exact wpAny_pyIter_valiter (i := i) ⟨ob, o1, o2, o3⟩ q'
    · intro c' env' σ₂ s₂ Q' E' gg im₂ h₂ kk
      obtain ⟨hz, kvs, d1, r1⟩ := h₂.dict_ep gg
      obtain ⟨ob, o1, o2, o3, _⟩ := h₂.it_at
      refine wpAny_pyNext_values_end hh ⟨ob, o1, o2, by rw [← r1.length]; exact o3⟩ d1 (by have := r1.length; simp; omega) fun h' hs => kk h' s₂.toks hs
  · exact q₁.elim

theorem entry_dict_itemiterator_iter : entryFor table "dict_itemiterator.__iter__" = some Builtin.«dict_keyiterator.__iter__» :=
  entryFor_alias (id' := "dict_keyiterator.__iter__") (by kernel_rfl) rfl (by decide +kernel) (by kernel_rfl)
theorem pyIter_itemiter {it : Addr} {Q : Value → Shared → Prop} {E : Value → Shared → Prop} (hit : s.TypeIs (.ref it) "dict_itemiterator") (h : Q (.ref it) s) : wpAny (model prog w) A (pyIter (.ref it)) Q E s := by
  refine wpAny_pyIter_slot hit F.slot_dict_itemiterator_iter (wpAny_call_entry F.slot_dict_itemiterator_iter hit entry_dict_itemiterator_iter ?_ (F.args_dict_itemiterator_iter_1 _))
  show wpAny _ _ (ret (.ref it)) _ _ s
  exact wpAny_pure ⟨_, rfl, "dict_itemiterator", _, hit, F.slot_dict_itemiterator_next.lookup, h⟩
/-- the iterator of a dict's items, between two turns -/
abbrev itemObj (d : Addr) (i n ep : Nat) (ok ov : Value) : Obj := { cls := .type "dict_itemiterator", data := .fields #[.none, .bool false, .ref d, .int i 0, .int n 0, .int ep 0, ok, ov] }
theorem it_ents {elts : List Expr} {x1 : Nat} {tpos : Pos} {o : Expr} {apos pos : Pos} {mo : PTx LV} (hh : A.handled = none) (hbase : attributeBase o (Str.ofString "items") env (eval o env) = eval o env) (hline : (apos.endLine == pos.line) = true) (ho : Sim prog w TS n A env (eval o env) VRel mo) :
    SimIt prog w TS n A env (.Tuple elts x1 tpos) (.Call (.Attribute o (Str.ofString "items") apos) [] [] pos) (pbind mo fun a => pbind (pisdict a) fun _ => pents a) := fun c σ s W h Q E q => by
  refine meth0_go F.plainAttrs_dict F.slot_dict_items F.type_dict_items hbase hline ho isOf_dict W h (K := fun a σ => pents a Q E σ) q fun v x σ₁ s₁ rv h₁ i₁ q₁ => ?_
  unfold pents at q₁; split at q₁
  · obtain ⟨es, ep, e, q₁⟩ := q₁
    cases rv.ref_inv
    rename_i a
    obtain ⟨hz, kvs, d1, r1⟩ := h₁.dict_ep e
    have hl := r1.length
    refine call_meetsIn F.slot_dict_items d1.dictOf.typeIs F.entry_dict_items (F.args_dict_items_1 _) (meets_dict_items (intKind prog w) a (h₁.not_sysm W e)) ⟨⟨kvs, d1.dictOf⟩, ?_⟩
    have k0 : ∀ b o, s₁.heap.get? b = some o → (s₁.heap.push { cls := .type "dict_items", data := .fields #[.ref a] }).get? b = some o := fun b o e => Heap.get?_push_of_some _ e
    have h₂ := h₁.keeps (tk := s₁.toks) k0
    refine wpAny_pyIter_items ⟨_, Heap.get?_push_size _ rfl, rfl, rfl⟩ (d1.keep k0) ?_
    rw [← hl]
    obtain ⟨I, hI⟩ : ∃ I, I = (s₁.heap.push { cls := .type "dict_items", data := .fields #[.ref a] }).objs.size := ⟨_, rfl⟩
    have k : ∀ b o, (s₁.heap.push { cls := .type "dict_items", data := .fields #[.ref a] }).get? b = some o → ((s₁.heap.push { cls := .type "dict_items", data := .fields #[.ref a] }).push (itemObj a 0 es.length ep .none .none)).get? b = some o := fun b o e => Heap.get?_push_of_some _ e
    have foff := h₂.fresh_off; have fbase := h₂.fresh_base; have fG := h₂.fresh_G
    dsimp only at foff fbase fG
    rw [← hI] at foff fbase
    have ok : ItOK prog w c A env (.Tuple elts x1 tpos) (.ref I) (fun i L => ∃ ok ov, L = [(I, itemObj a i es.length ep ok ov)]) [I] (es.map fun kv => LV.tup [.int kv.1, kv.2]) (fun σ => σ.heap a = some (.dict es ep)) ((s₁.heap.push { cls := .type "dict_items", data := .fields #[.ref a] }).push (itemObj a 0 es.length ep .none .none)) := by
      refine ⟨fun b hb => by rw [List.mem_singleton.mp hb]; exact ⟨⟨foff, fbase, fun p hp => by rw [hI]; exact fG p hp⟩, by rw [hI]; exact Heap.lt_size (Heap.get?_push_size _ rfl)⟩, fun c' env' hcb hfr => ?_⟩
      have hI' := hfr I (.head _)
      refine ⟨fun i L ⟨ok, ov, hL⟩ p hp => by subst hL; rw [List.mem_singleton.mp hp]; exact .head _, fun b hb => by rw [List.mem_singleton.mp hb]; exact hI'.1, ?_, ?_, ?_⟩
      · rintro i L σ₂ s₂ lv P E' hx gg im₂ ⟨ok, ov, rfl⟩ h₂ kk
        obtain ⟨hz, kvs, d1, r1⟩ := h₂.dict_ep gg
        obtain ⟨ob, o1, o2, o3, o4⟩ := h₂.it_at
        cases o4 rfl
        rw [List.getElem?_map] at hx
        cases h3 : es[i]? with
        | none => rw [h3] at hx; cases hx
        | some kv =>
          rw [h3] at hx; cases hx
          obtain ⟨u, h1, h2⟩ := r1.get h3
          have o1' : IsItemIter s₂.heap I a i kvs.length ep ok ov := by rw [← r1.length]; exact o1
          refine wpAny_pyNext_items_item o1' d1 h1 fun key h' hk hit htup hsz hkeep => ?_
          obtain ⟨t, rfl⟩ := is_int hk
          refine ⟨_, rfl, wpAny_letOwnedTupleGo_items (s := { s₂ with heap := h' }) hit fun h'' hit' hs => ?_⟩
          have ke : Heap.ExtBut I s₂.heap h'' := fun b o hb e => hs.extBut b o hb (hkeep b o hb e)
          rw [← r1.length] at hit'
          obtain ⟨r, im⟩ := Rel.reguard (o' := itemObj a (i + 1) es.length ep (.int kv.1 t) u) (tk := s₂.toks) hI'.1 hI'.2.1 hI'.2.2 h₂ rfl ke hit' rfl rfl (fun _ => rfl)
          have hne : s₂.heap.objs.size ≠ I := Nat.ne_of_gt (Heap.lt_size o1)
          refine kk _ _ _ ?_ ⟨_, _, rfl⟩ r im
          exact .tup (items := [.int kv.1 t, u]) (n := 0) (hs.extBut _ _ hne htup) (.cons (.int _ _) (.cons (h2.imm im) .nil))
      · rintro i L σ₂ s₂ Q' E' ⟨ok, ov, rfl⟩ h₂ q'
        obtain ⟨ob, o1, o2, o3, o4⟩ := h₂.it_at
        cases o4 rfl
        exact pyIter_itemiter ⟨_, o1, rfl⟩ q'
      · rintro L σ₂ s₂ P E' gg im₂ ⟨ok, ov, rfl⟩ h₂ kk
        obtain ⟨hz, kvs, d1, r1⟩ := h₂.dict_ep gg
        obtain ⟨ob, o1, o2, o3, o4⟩ := h₂.it_at
        cases o4 rfl
        rw [List.length_map] at o1
        have o1' : IsItemIter s₂.heap I a es.length kvs.length ep ok ov := by rw [← r1.length]; exact o1
        refine wpAny_pyNext_items_end hh o1' d1 (by have := r1.length; simp; omega) fun h' hs => ?_
        obtain ⟨r, im⟩ := Rel.unguard (tk := s₂.toks) hI'.1 hI'.2.1 hI'.2.2 h₂ rfl hs
        exact kk _ r im
    have h₃ := h₂.guardNew (tk := s₁.toks) (o := itemObj a 0 es.length ep .none .none) k (Heap.get?_push_size _ rfl) rfl rfl (fun _ => rfl)
    rw [← hI]
    refine ⟨_, _, _, σ₁, _, ok, ⟨.none, .none, rfl⟩, ?_, (i₁.trans (Imm.of_keeps k0)).trans (Imm.of_keeps k), q₁⟩
    rw [hI]; exact h₃
  · exact q₁.elim

/-- what is known of a guarded object -/
def GAt (h : Heap) (p : Addr × Obj) : Prop := ∃ o, h.get? p.1 = some o ∧ o.cls = p.2.cls ∧ o.data = p.2.data ∧ (exactO p.2 = true → o = p.2)
theorem Rel.guards {O O' : List (Addr × Obj)} (h : Rel prog w (c.more O) env σ s) {h' : Heap} {tk : Nat} (hf : ∀ p ∈ O, Free c env p.1) (hO : ∀ p ∈ O', ∃ q ∈ O, q.1 = p.1) (ni : ∀ p ∈ O, immObj { p.2 with slots := #[] } = false)
    (k : ∀ b o, (∀ p ∈ O, b ≠ p.1) → s.heap.get? b = some o → h'.get? b = some o) (hg : ∀ p ∈ O', GAt h' p) : Rel prog w (c.more O') env σ { s with heap := h', toks := tk } ∧ Imm s.heap h' := by
  have im : Imm s.heap h' := fun b o e i => by
    refine k b o (fun p hp z => ?_) e
    obtain ⟨og, g, g1, g2, _⟩ := h.guard p (List.mem_append_left _ hp)
    rw [z, g] at e; cases e
    have := ni p hp
    unfold immObj at i this; rw [g2] at i; simp only at i this; rw [g1] at i; rw [i] at this; cases this
  have nσ : ∀ a lo, σ.heap a = some lo → ∀ p ∈ O, a ≠ p.1 := fun a lo e p hp => Ne.symm ((h.dom a lo e).2.2.1 p (List.mem_append_left _ hp))
  obtain ⟨m, ⟨oL, es, ep, e1, e2, e3⟩, n2⟩ := h.ns
  refine ⟨⟨fun b o e => k b o (fun p hp z => by rw [z, (hf p hp).2.1] at e; cases e) (h.keep b o e), fun p hp => ?_, ⟨m, ⟨oL, es, ep, k _ _ (fun p hp => Ne.symm (hf p hp).1.1) e1, e2, e3⟩, fun x hx => (n2 x hx).imm im⟩, fun x hx => ?_, fun y hy => ?_, fun a o e => (h.obj a o e).move im fun ob eb => k _ _ (nσ a o e) eb, fun a o e => ?_, h.gens, h.os, h.drawn⟩, im⟩
  · rcases List.mem_append.mp hp with hp | hp
    · exact hg p hp
    · obtain ⟨og, g, g1⟩ := h.guard p (List.mem_append_right _ hp)
      exact ⟨og, k _ _ (fun q hq => (hf q hq).2.2 p hp) g, g1⟩
  · obtain ⟨a, v, f1, ⟨oc, f2, f3⟩, f4⟩ := h.cell x hx
    exact ⟨a, v, f1, ⟨oc, k _ _ (fun q hq => (hf q hq).1.2 _ (mem_of_lookup f1)) f2, f3⟩, f4.imm im⟩
  · obtain ⟨v, oc, f2, f3⟩ := h.cin y hy
    exact ⟨v, oc, k _ _ (fun q hq => (hf q hq).1.2 _ hy) f2, f3⟩
  · obtain ⟨a1, a2, a3, a4⟩ := h.dom a o e
    refine ⟨a1, a2, fun p hp => ?_, a4⟩
    rcases List.mem_append.mp hp with hp | hp
    · obtain ⟨q, hq, hqp⟩ := hO p hp
      rw [← hqp]; exact a3 q (List.mem_append_left _ hq)
    · exact a3 p (List.mem_append_right _ hp)
theorem Rel.guards0 {O : List (Addr × Obj)} (h : Rel prog w (c.more O) env σ s) {h' : Heap} {tk : Nat} (hf : ∀ p ∈ O, Free c env p.1) (ni : ∀ p ∈ O, immObj { p.2 with slots := #[] } = false)
    (k : ∀ b o, (∀ p ∈ O, b ≠ p.1) → s.heap.get? b = some o → h'.get? b = some o) : Rel prog w c env σ { s with heap := h', toks := tk } ∧ Imm s.heap h' := by
  obtain ⟨r, im⟩ := h.guards (O' := []) (tk := tk) hf (fun _ hp => nomatch hp) ni k (fun _ hp => nomatch hp)
  exact ⟨r, im⟩
/-- several objects newly made, guarded -/
theorem Rel.guardNews (h : Rel prog w c env σ s) {h' : Heap} {tk : Nat} {O : List (Addr × Obj)} (k : ∀ b o, s.heap.get? b = some o → h'.get? b = some o) (hn : ∀ p ∈ O, s.heap.objs.size ≤ p.1) (hg : ∀ p ∈ O, GAt h' p) :
    Rel prog w (c.more O) env σ { s with heap := h', toks := tk } ∧ ∀ p ∈ O, Free c env p.1 := by
  have q := h.keeps (tk := tk) k
  have far : ∀ b o, s.heap.get? b = some o → ∀ p ∈ O, b ≠ p.1 := fun b o e p hp => Nat.ne_of_lt (Nat.lt_of_lt_of_le (Heap.lt_size e) (hn p hp))
  refine ⟨⟨q.keep, fun p hp => (List.mem_append.mp hp).elim (hg p) (q.guard p), q.ns, q.cell, q.cin, q.obj, fun a o e => ?_, q.gens, q.os, q.drawn⟩, fun p hp => ⟨⟨?_, fun y hy => ?_⟩, ?_, fun p' hp' => ?_⟩⟩
  · obtain ⟨a1, a2, a3, a4⟩ := h.dom a o e
    refine ⟨a1, a2, fun p hp => ?_, a4⟩
    rcases List.mem_append.mp hp with hp | hp
    · obtain ⟨ob', e', _⟩ := (h.obj a o e).notImm
      exact Ne.symm (far _ _ e' p hp)
    · exact a3 p hp
  · obtain ⟨m, ⟨oL, es, ep, e1, _⟩, _⟩ := h.ns; exact Ne.symm (far _ _ e1 p hp)
  · obtain ⟨v, oc, f2, f3⟩ := h.cin y hy; exact far _ _ f2 p hp
  · cases q9 : c.base.get? p.1 with
    | none => rfl
    | some o => exact absurd rfl (far _ _ (h.keep _ _ q9) p hp)
  · obtain ⟨og, g, _⟩ := h.guard p' hp'; exact far _ _ g p hp

abbrev enumObj (it : Addr) (i : Nat) (old : Value) : Obj := { cls := .type "enumerate", data := .fields #[.none, .bool false, .ref it, rawInt i, .none, old] }
theorem it_enum {elts : List Expr} {x1 : Nat} {tpos : Pos} {e : Expr} {np pos : Pos} {m : PTx LV} (hh : A.handled = none) (hv : TS.gl "enumerate" = some (.type "enumerate")) (hk : env.kindOf (Str.ofString "enumerate") = some .globalImplicit)
    (he : starEach [e] env = [(false, eval e env)]) (hm : Sim prog w TS n A env (eval e env) VRel m) :
    SimIt prog w TS n A env (.Tuple elts x1 tpos) (.Call (.Name (Str.ofString "enumerate") np) [e] [] pos) (pbind m penum) := fun c σ s W h Q E q => by
  refine wpAny_Call_ofName (at_glob hv hk (by decide) W h (callWith_machine rfl (by rw [he]; rfl) ?_))
  rw [he]
  refine spliced_cons ((hm c σ s W h).go (Imm.refl _) q fun v x σ₁ s₁ rv h₁ i₁ j₁ q₁ => spliced_nil ?_)
  unfold penum at q₁; split at q₁
  · obtain ⟨xs, e, q₁⟩ := q₁
    cases rv.ref_inv
    rename_i a
    obtain ⟨hz, it, n1, l1, r1⟩ := h₁.list_at e
    refine call_enumerate_list l1.isList fun h' hen hli hsz k => ?_
    refine wpAny_pyIter_enum hen ?_
    obtain ⟨I, hI⟩ : ∃ I, I = s₁.heap.objs.size + 1 := ⟨_, rfl⟩
    obtain ⟨J, hJ⟩ : ∃ J, J = s₁.heap.objs.size := ⟨_, rfl⟩
    rw [← hI, ← hJ] at hen; rw [← hJ] at hli; rw [← hI]
    have hIJ : I ≠ J := by omega
    obtain ⟨h₂, hfree⟩ := h₁.guardNews (tk := s₁.toks) (O := [(I, enumObj J 0 .none), (J, lIterObj a 0)]) k (fun p hp => by
        rcases List.mem_cons.mp hp with rfl | hp
        · show _ ≤ I; omega
        · rw [List.mem_singleton.mp hp]; show _ ≤ J; omega) (fun p hp => by
        rcases List.mem_cons.mp hp with rfl | hp
        · exact ⟨_, hen, rfl, rfl, fun _ => rfl⟩
        · rw [List.mem_singleton.mp hp]
          obtain ⟨ob, o1, o2, o3⟩ := hli
          exact ⟨ob, o1, o2, o3, fun q => nomatch q⟩)
    have fI := hfree (I, enumObj J 0 .none) (.head _)
    have fJ := hfree (J, lIterObj a 0) (.tail _ (.head _))
    have hfr : ∀ (o1 o2 : Obj), ∀ p ∈ [(I, o1), (J, o2)], Free c env p.1 := fun o1 o2 p hp => by
      rcases List.mem_cons.mp hp with rfl | hp
      · exact fI
      · rw [List.mem_singleton.mp hp]; exact fJ
    have ok : ItOK prog w c A env (.Tuple elts x1 tpos) (.ref I) (fun i L => ∃ old, L = [(I, enumObj J i old), (J, lIterObj a i)]) [I, J] (xs.zipIdx.map fun vi => LV.tup [.int vi.2, vi.1]) (fun σ => σ.heap a = some (.list xs)) h' := by
      refine ⟨fun b hb => by rcases List.mem_cons.mp hb with rfl | hb; exact ⟨fI, Heap.lt_size hen⟩; rw [List.mem_singleton.mp hb]; obtain ⟨ob, o1, _⟩ := hli; exact ⟨fJ, Heap.lt_size o1⟩, fun c' env' hcb hfr' => ?_⟩
      have fI := hfr' I (.head _)
      have fJ := hfr' J (.tail _ (.head _))
      have hfr : ∀ (o1 o2 : Obj), ∀ p ∈ [(I, o1), (J, o2)], Free c' env' p.1 := fun o1 o2 p hp => by
        rcases List.mem_cons.mp hp with rfl | hp
        · exact fI
        · rw [List.mem_singleton.mp hp]; exact fJ
      refine ⟨fun i L ⟨old, hL⟩ p hp => by subst hL; rcases List.mem_cons.mp hp with rfl | hp; exact .head _; rw [List.mem_singleton.mp hp]; exact .tail _ (.head _), fun b hb => by rcases List.mem_cons.mp hb with rfl | hb; exact fI.1; rw [List.mem_singleton.mp hb]; exact fJ.1, ?_, ?_, ?_⟩
      · rintro i L σ₂ s₂ lv P E' hx gg im₂ ⟨old, rfl⟩ h₂ kk
        obtain ⟨hz, it, n1, l1, r1⟩ := h₂.list_at gg
        obtain ⟨ob, o1, o2, o3, o4⟩ := h₂.guard (I, enumObj J i old) (.head _)
        cases o4 rfl
        obtain ⟨oj, j1, j2, j3, _⟩ := h₂.guard (J, lIterObj a i) (.tail _ (.head _))
        rw [List.getElem?_map, List.getElem?_zipIdx] at hx
        cases h3 : xs[i]? with
        | none => rw [h3] at hx; cases hx
        | some xv =>
          rw [h3] at hx; simp at hx; subst hx
          obtain ⟨u, h1, h2⟩ := r1.getA h3
          refine wpAny_pyNext_enum_item o1 ⟨oj, j1, j2, j3⟩ l1.isList h1 hIJ fun h₃ hen hli htup hsz hkeep => ?_
          refine ⟨_, rfl, wpAny_letOwnedTupleGo_enum (s := { s₂ with heap := h₃, toks := s₂.toks + 1 }) hen fun h₄ hen' hs => ?_⟩
          have hli' : h₄.IsListIter J a (i + 1) := by
            obtain ⟨oq, q1, q2, q3⟩ := hli
            exact ⟨oq, hs.extBut _ _ (Ne.symm hIJ) q1, q2, q3⟩
          obtain ⟨oq, q1, q2, q3⟩ := hli'
          have hen'' : h₄.get? I = some (enumObj J (i + 1) u) := by simpa [enumObj] using hen'
          obtain ⟨r, im⟩ := h₂.guards (O' := [(I, enumObj J (i + 1) u), (J, lIterObj a (i + 1))]) (tk := s₂.toks + 1) (hfr _ _) (fun p hp => by
              rcases List.mem_cons.mp hp with rfl | hp
              · exact ⟨_, .head _, rfl⟩
              · rw [List.mem_singleton.mp hp]; exact ⟨_, .tail _ (.head _), rfl⟩) (fun p hp => by
              rcases List.mem_cons.mp hp with rfl | hp
              · rfl
              · rw [List.mem_singleton.mp hp]; rfl) (fun b o hb e => hs.extBut b o (hb _ (.head _)) (hkeep b o (hb _ (.head _)) (hb _ (.tail _ (.head _))) e)) (fun p hp => by
              rcases List.mem_cons.mp hp with rfl | hp
              · exact ⟨_, hen'', rfl, rfl, fun _ => rfl⟩
              · rw [List.mem_singleton.mp hp]; exact ⟨oq, q1, q2, q3, fun q => nomatch q⟩)
          have hne : s₂.heap.objs.size ≠ I := Nat.ne_of_gt (Heap.lt_size o1)
          refine kk _ _ _ ?_ ⟨_, rfl⟩ r im
          exact .tup (items := [.int i s₂.toks, u]) (n := 0) (hs.extBut _ _ hne htup) (.cons (.int _ _) (.cons (h2.imm im) .nil))
      · rintro i L σ₂ s₂ Q' E' ⟨old, rfl⟩ h₂ q'
        obtain ⟨ob, o1, o2, o3, o4⟩ := h₂.guard (I, enumObj J i old) (.head _)
        cases o4 rfl
        exact wpAny_pyIter_enum o1 q'
      · rintro L σ₂ s₂ P E' gg im₂ ⟨old, rfl⟩ h₂ kk
        obtain ⟨hz, it, n1, l1, r1⟩ := h₂.list_at gg
        obtain ⟨ob, o1, o2, o3, o4⟩ := h₂.guard _ (.head _)
        cases o4 rfl
        obtain ⟨oj, j1, j2, j3, _⟩ := h₂.guard _ (.tail _ (.head _))
        simp only [List.length_map, List.length_zipIdx] at o1 j3
        refine wpAny_pyNext_enum_end hh o1 ⟨oj, j1, j2, j3⟩ l1.isList (by rw [← r1.sizeA]; simp) fun h₃ hs => ?_
        obtain ⟨r, im⟩ := h₂.guards0 (tk := s₂.toks) (hfr _ _) (fun p hp => by
              rcases List.mem_cons.mp hp with rfl | hp
              · rfl
              · rw [List.mem_singleton.mp hp]; rfl) (fun b o hb e => hs b o (hb _ (.tail _ (.head _))) e)
        exact kk _ r im
    exact ⟨_, _, _, σ₁, _, ok, ⟨.none, rfl⟩, h₂, i₁.trans (Imm.of_keeps k), q₁⟩
  · exact q₁.elim

theorem sub_ri_reversed : isSubtype (.type "range_iterator") (.type "reversed") = pure false := by rw [isSubtype_type]; kernel_rfl
theorem fits_small {x : Int} (h1 : -(2 ^ 40) ≤ x) (h2 : x ≤ 2 ^ 40) : Builtin.Range.rangeFitsLong x = true := by
  unfold Builtin.Range.rangeFitsLong; simp only [Bool.and_eq_true, decide_eq_true_eq]; omega
theorem call_range_reversed {r : Addr} {b : Int} {t u v : Tok} {Q : Value → Shared → Prop} {E : Value → Shared → Prop} (hr : IsRange s.heap r 0 b 1 t u v) (hb0 : 0 ≤ b) (hb : b ≤ 2 ^ 20)
    (h : Q (.ref s.heap.objs.size) { s with heap := s.heap.push { cls := .type "range_iterator", data := .fields #[rawInt (b - 1), rawInt b, rawInt (-1)] } }) : wpAny (model prog w) A (call (.builtin "range.__reversed__") [.ref r]) Q E s := by
  refine wpAny_call_entry F.slot_range_reversed ⟨_, hr, rfl⟩ F.entry_range_reversed ?_ (F.args_range_reversed_1 _)
  have hn : Builtin.Range.rangeSize 0 b 1 = b := by
    unfold Builtin.Range.rangeSize
    simp only [show ((1 : Int) > 0) = True from by simp, if_true]
    split <;> omega
  obtain ⟨hp, g, d, tk, os⟩ := s
  unfold Builtin.«range.__reversed__»
  wp_walk
  rw [hn, fits_small (by decide) (by decide), fits_small (by omega) (by omega), fits_small (by decide) (by decide), fits_small (by decide) (by decide), fits_small (by decide) (by decide)]
  simp only [Bool.and_self, Bool.not_true, Bool.false_eq_true, if_false, if_true, Int.zero_add, Int.mul_one]
  exact wpAny_bind (wpAny_newObj_type (wpAny_pure ⟨_, rfl, h⟩))
theorem newClass_rev (a : Value) : Builtin.SmallTypes.newClass "reversed" ⟨[.type "reversed", a], []⟩ = pure (.type "reversed", [a]) := by
  unfold Builtin.SmallTypes.newClass
  simp only [isType, F.sub_reversed_self, pure_bind, Bool.not_true, Bool.false_eq_true, if_false]
set_option maxRecDepth 100000 in
theorem call_reversed_range {r : Addr} {b : Int} {t u v : Tok} {Q : Value → Shared → Prop} {E : Value → Shared → Prop} (hr : IsRange s.heap r 0 b 1 t u v) (hb0 : 0 ≤ b) (hb : b ≤ 2 ^ 20)
    (h : Q (.ref s.heap.objs.size) { s with heap := s.heap.push { cls := .type "range_iterator", data := .fields #[rawInt (b - 1), rawInt b, rawInt (-1)] } }) : wpAny (model prog w) A (call (.type "reversed") [.ref r]) Q E s := by
  have hT : s.TypeIs (.ref r) "range" := ⟨_, hr, rfl⟩
  refine callType_other (U := "range_iterator") (Q₁ := fun obj s₁ => obj = .ref s.heap.objs.size ∧ s₁ = { s with heap := s.heap.push { cls := .type "range_iterator", data := .fields #[rawInt (b - 1), rawInt b, rawInt (-1)] } }) (by decide +kernel) F.create_reversed ⟨_, _, F.mro_reversed⟩ F.made_reversed sub_ri_reversed (F.typeCall_reversed_1 _) ?_ ?_
  · refine codeAny_of_tree ?_
    show wpAny _ A.in1.in1 (do checkBuiltinCall "reversed.__new__" ⟨[.type "reversed", .ref r], []⟩; again (.builtin "reversed.__new__" ⟨[.type "reversed", .ref r], []⟩)) _ _ s
    refine wpAny_bind (wpAny_of_eq (F.newCall_reversed_1 _) (wpAny_pure ⟨plainId_quiet F.plain_reversed_new _, codeAny_builtin F.entry_reversed_new ?_⟩))
    rw [Around.under_plainId F.plain_reversed_new _]
    unfold Builtin.«reversed.__new__»
    refine wpAny_bind (wpAny_of_eq (newClass_rev _) ?_)
    try dsimp only
    refine wpAny_bind (wpAny_of_eq (a := ()) (by first | rfl | kernel_rfl) ?_)
    refine wpAny_bind (wpAny_of_eq (a := ()) (by first | rfl | kernel_rfl) ?_)
    try dsimp only
    refine wpAny_bind (wpAny_specialOf hT F.slot_range_reversed.lookup ?_)
    try dsimp only
    refine wpAny_bind (wpAny_of_eq (F.slot_range_reversed.bind _) ?_)
    try dsimp only
    rw [if_neg (show ¬ ((Value.builtin "range.__reversed__" == Value.none) = true) from Bool.false_ne_true)]
    refine wpAny_bind (wpAny_rule ?_)
    refine wpAny_bind (m := runValue (.call (.builtin "range.__reversed__") ⟨[.ref r], []⟩)) (show wpAny _ _ (call (.builtin "range.__reversed__") [.ref r]) _ _ _ from call_range_reversed hr hb0 hb ?_)
    exact wpAny_bind (wpAny_pure (wpAny_pure ⟨rfl, rfl⟩))
  · rintro obj s₁ ⟨rfl, rfl⟩
    exact ⟨⟨_, Heap.get?_push_size _ rfl, rfl⟩, h⟩

theorem it_rev {tgt e : Expr} {np pos : Pos} {m : PTx LV} (hh : A.handled = none) (hv : TS.gl "reversed" = some (.type "reversed")) (hk : env.kindOf (Str.ofString "reversed") = some .globalImplicit)
    (he : starEach [e] env = [(false, eval e env)]) (hm : Sim prog w TS n A env (eval e env) VRel m) :
    SimIt prog w TS n A env tgt (.Call (.Name (Str.ofString "reversed") np) [e] [] pos) (pbind m prev) := fun c σ s W h Q E q => by
  refine wpAny_Call_ofName (at_glob hv hk (by decide) W h (callWith_machine rfl (by rw [he]; rfl) ?_))
  rw [he]
  refine spliced_cons ((hm c σ s W h).go (Imm.refl _) q fun v x σ₁ s₁ rv h₁ i₁ j₁ q₁ => spliced_nil ?_)
  unfold prev at q₁; split at q₁
  · obtain ⟨xs, e, q₁⟩ := q₁
    cases rv.ref_inv
    rename_i a
    obtain ⟨hz, it, n1, l1, r1⟩ := h₁.list_at e
    refine call_reversed_list l1.isList ?_
    have hsz := r1.sizeA
    have k : ∀ b o, s₁.heap.get? b = some o → (s₁.heap.push (revObj a ((it.size : Int) - 1))).get? b = some o := fun b o e => Heap.get?_push_of_some _ e
    refine wpAny_pyIter_revIter ⟨_, Heap.get?_push_size _ rfl, rfl, rfl⟩ ?_
    refine ⟨_, _, _, σ₁, _, itOK_one (I := s₁.heap.objs.size) (O := fun i => revObj a ((xs.length : Int) - 1 - i)) ⟨h₁.fresh_off, h₁.fresh_base, h₁.fresh_G⟩ (Heap.lt_size (Heap.get?_push_size _ rfl)) (fun _ => rfl) ?_ ?_ ?_ ?_, rfl, h₁.guardNew (tk := s₁.toks) k (Heap.get?_push_size _ rfl) rfl (by simp [revObj, hsz]) (fun q => nomatch q), i₁.trans (Imm.of_keeps k), q₁⟩
    · intro c' env' i σ₂ s₂ lv Q' E' hx gg im₂ h₂ kk
      obtain ⟨hz, it, n1, l1, r1⟩ := h₂.list_at gg
      obtain ⟨ob, o1, o2, o3, _⟩ := h₂.it_at
      have hlt : i < xs.length := by simpa using (List.getElem?_eq_some_iff.mp hx).1
      rw [List.getElem?_reverse hlt] at hx
      obtain ⟨u, h1, h2⟩ := r1.getA hx
      have e9 : ((xs.length : Int) - 1 - (i : Int)) = ((xs.length - 1 - i : Nat) : Int) := by omega
      exact wpAny_pyNext_rev_item ⟨ob, o1, o2, by rw [o3, revObj]; simp only; rw [e9]⟩ l1.isList h1 fun h' hit hs => by
        obtain ⟨ob', p1, p2, p3⟩ := hit
        refine kk u h' s₂.toks ob' hs.extBut p1 p2 ?_ (fun q => nomatch q) fun im => h2.imm im
        rw [p3, revObj]; simp only
        have e8 : ((xs.length - 1 - i : Nat) : Int) - 1 = (xs.length : Int) - 1 - ((i + 1 : Nat) : Int) := by omega
        rw [e8]
    · intro i s₂ v Q' E' ob o1 o2 o3 _ q'
      exact let_list o1 o2 o3 (by decide) q'
    · intro i s₂ Q' E' ob o1 o2 o3 o4 q'
      exact wpAny_pyIter_revIter ⟨ob, o1, o2, o3⟩ q'
    · intro c' env' σ₂ s₂ Q' E' gg im₂ h₂ kk
      obtain ⟨ob, o1, o2, o3, _⟩ := h₂.it_at
      refine wpAny_pyNext_rev_end (l := a) hh ⟨ob, o1, o2, ?_⟩ fun h' hs => kk h' s₂.toks hs
      rw [o3, revObj]; simp only [List.length_reverse]
      have e9 : (xs.length : Int) - 1 - (xs.length : Int) = -1 := by omega
      rw [e9]
  · exact q₁.elim
theorem it_revr {tgt e : Expr} {np pos : Pos} {m : PTx LV} (hh : A.handled = none) (hv : TS.gl "reversed" = some (.type "reversed")) (hk : env.kindOf (Str.ofString "reversed") = some .globalImplicit)
    (he : starEach [e] env = [(false, eval e env)]) (hm : Sim prog w TS n A env (eval e env) VRel m) :
    SimIt prog w TS n A env tgt (.Call (.Name (Str.ofString "reversed") np) [e] [] pos) (pbind m prevr) := fun c σ s W h Q E q => by
  refine wpAny_Call_ofName (at_glob hv hk (by decide) W h (callWith_machine rfl (by rw [he]; rfl) ?_))
  rw [he]
  refine spliced_cons ((hm c σ s W h).go (Imm.refl _) q fun v x σ₁ s₁ rv h₁ i₁ j₁ q₁ => spliced_nil ?_)
  unfold prevr at q₁; split at q₁
  · rename_i a b d
    obtain ⟨⟨rfl, rfl, hb0, hb⟩, q₁⟩ := q₁
    cases rv with
    | rng er =>
      refine call_reversed_range er hb0 hb ?_
      obtain ⟨N, hN⟩ : ∃ N : Nat, b = (N : Int) := ⟨b.toNat, by omega⟩
      subst hN
      rw [Int.toNat_natCast] at q₁
      have k : ∀ b o, s₁.heap.get? b = some o → (s₁.heap.push { cls := .type "range_iterator", data := .fields #[rawInt ((N : Int) - 1), rawInt (N : Int), rawInt (-1)] }).get? b = some o := fun b o e => Heap.get?_push_of_some _ e
      refine wpAny_pyIter_rangeiter (Heap.get?_push_size _ rfl) ?_
      refine ⟨_, _, _, σ₁, _, itOK_one (I := s₁.heap.objs.size) (O := fun i => { cls := .type "range_iterator", data := .fields #[rawInt ((N : Int) - 1 - i), rawInt ((N : Int) - i), rawInt (-1)] }) ⟨h₁.fresh_off, h₁.fresh_base, h₁.fresh_G⟩ (Heap.lt_size (Heap.get?_push_size _ rfl)) (fun _ => rfl) ?_ ?_ ?_ ?_, rfl, h₁.guardNew (tk := s₁.toks) k (Heap.get?_push_size _ rfl) rfl (by simp) (fun _ => by simp), i₁.trans (Imm.of_keeps k), q₁⟩
      · intro c' env' i σ₂ s₂ lv Q' E' hx gg im₂ h₂ kk
        obtain ⟨ob, o1, o2, o3, o4⟩ := h₂.it_at
        cases o4 rfl
        have hlt : i < N := by simpa using (List.getElem?_eq_some_iff.mp hx).1
        rw [List.getElem?_reverse (by simpa using hlt), List.getElem?_map] at hx
        simp only [List.length_map, List.length_range] at hx
        rw [List.getElem?_range (by omega)] at hx
        simp at hx
        subst hx
        refine wpAny_pyNext_range_item o1 (by omega) fun h' hit hs => ?_
        have e1 : (N : Int) - 1 - (i : Int) + -1 = (N : Int) - 1 - ((i + 1 : Nat) : Int) := by omega
        have e2 : (N : Int) - (i : Int) - 1 = (N : Int) - ((i + 1 : Nat) : Int) := by omega
        rw [e1, e2] at hit
        refine kk _ h' _ _ hs.extBut hit rfl rfl (fun _ => rfl) fun im => ?_
        have e3 : ((N - 1 - i : Nat) : Int) = (N : Int) - 1 - (i : Int) := by omega
        rw [e3]; exact .int _ _
      · intro i s₂ v Q' E' ob o1 o2 o3 _ q'
        exact let_list o1 o2 o3 (by decide) q'
      · intro i s₂ Q' E' ob o1 o2 o3 o4 q'
        cases o4 rfl; exact wpAny_pyIter_rangeiter o1 q'
      · intro c' env' σ₂ s₂ Q' E' gg im₂ h₂ kk
        obtain ⟨ob, o1, o2, o3, o4⟩ := h₂.it_at
        cases o4 rfl
        exact wpAny_pyNext_range_end hh o1 (by simp) fun h' hs => kk h' s₂.toks hs
  · exact q₁.elim
end
end Mine
end
noncomputable section
open PySem PySem.W PyProof.Rows PySem.Calls PySem.SeqAt
set_option Elab.async false
set_option linter.unusedVariables false
namespace Mine

/-- the objects of a frame: its names, its cells -/
structure FrameG (h : Heap) (env : Env) (G : List (Addr × Obj)) : Prop where
  all : ∀ p ∈ G, h.get? p.1 = some p.2 ∧ (p.1 = env.locals ∨ ∃ y ∈ env.cells, y.2 = p.1)
  loc : ∃ o, (env.locals, o) ∈ G
  cells : ∀ y ∈ env.cells, ∃ o, (y.2, o) ∈ G

section
variable {prog : Program} {w : World} {TS : TopS} {c : Cx} {A : Around} {env : Env} {σ : LS} {s : Shared} {n : Nat}

theorem Rel.frame (h : Rel prog w c env σ s) : ∃ G, FrameG s.heap env G := by
  obtain ⟨m, ⟨oL, es, ep, e1, _⟩, _⟩ := h.ns
  have key : ∀ l : List (Str × Addr), (∀ y ∈ l, y ∈ env.cells) → ∃ G : List (Addr × Obj), (∀ p ∈ G, s.heap.get? p.1 = some p.2 ∧ ∃ y ∈ env.cells, y.2 = p.1) ∧ ∀ y ∈ l, ∃ o, (y.2, o) ∈ G := by
    intro l
    induction l with
    | nil => exact fun _ => ⟨[], fun _ hp => (nomatch hp), fun _ hp => (nomatch hp)⟩
    | cons y r ih =>
      intro hl
      obtain ⟨G, g1, g2⟩ := ih fun y' hy' => hl y' (.tail _ hy')
      obtain ⟨v, oc, c1, _⟩ := h.cin y (hl y (.head _))
      refine ⟨(y.2, oc) :: G, fun p hp => ?_, fun y' hy' => ?_⟩
      · rcases List.mem_cons.mp hp with rfl | hp
        · exact ⟨c1, y, hl y (.head _), rfl⟩
        · exact g1 p hp
      · rcases List.mem_cons.mp hy' with rfl | hy'
        · exact ⟨oc, .head _⟩
        · exact (g2 y' hy').imp fun _ q => .tail _ q
  obtain ⟨G, g1, g2⟩ := key env.cells fun _ q => q
  refine ⟨(env.locals, oL) :: G, fun p hp => ?_, ⟨oL, .head _⟩, fun y hy => (g2 y hy).imp fun _ q => .tail _ q⟩
  rcases List.mem_cons.mp hp with rfl | hp
  · exact ⟨e1, .inl rfl⟩
  · exact ⟨(g1 p hp).1, .inr (g1 p hp).2⟩

/-- what a new frame's names are -/
structure NewFrame (c : Cx) (env env' : Env) (loc : String → Option LV) (h h' : Heap) : Prop where
  new : h.objs.size ≤ env'.locals
  ns : ∃ m, h'.Ns env'.locals m ∧ ∀ x : String, env'.kindOf (Str.ofString x) = some .local → OV h' (loc x) (m (Str.ofString x))
  cell : ∀ (x : String), (env'.kindOf (Str.ofString x) = some .cell ∨ env'.kindOf (Str.ofString x) = some .free) → ∃ a v, env'.cells.lookup (Str.ofString x) = some a ∧ h'.IsCell a v ∧ OV h' (loc x) v
  cells : ∀ y ∈ env'.cells, y ∈ env.cells ∨ (env'.locals < y.2 ∧ ∃ v, h'.IsCell y.2 v)
  cellU : ∀ y ∈ env'.cells, ∀ y' ∈ env'.cells, y.2 = y'.2 → y.1 = y'.1
  kind : env'.scope.kind = .function
  glob : env'.globals = mainGlobals
  bui : env'.builtins = builtinsNs

theorem Rel.enter (h : Rel prog w c env σ s) {G : List (Addr × Obj)} (hG : FrameG s.heap env G) {env' : Env} {loc : String → Option LV} {h' : Heap} {tk : Nat} (k : ∀ b o, s.heap.get? b = some o → h'.get? b = some o)
    (nf : NewFrame c env env' loc s.heap h') : Rel prog w (c.more G) env' ⟨loc, σ.heap⟩ { s with heap := h', toks := tk } := by
  have q := h.keeps (tk := tk) k
  refine ⟨q.keep, fun p hp => ?_, nf.ns, nf.cell, fun y hy => ?_, q.obj, fun a o e => ?_, q.gens, q.os, q.drawn⟩
  · rcases List.mem_append.mp hp with hp | hp
    · exact ⟨p.2, k _ _ (hG.all p hp).1, rfl, rfl, fun _ => rfl⟩
    · exact q.guard p hp
  · rcases nf.cells y hy with hy | ⟨_, v, hv⟩
    · exact q.cin y hy
    · exact ⟨v, hv⟩
  · obtain ⟨a1, a2, a3, a4⟩ := h.dom a o e
    obtain ⟨ob, e1, _⟩ := (h.obj a o e).notImm
    have hlt := Heap.lt_size e1
    refine ⟨a1, fun z => ?_, fun p hp z => ?_, fun y hy z => ?_⟩
    · have := nf.new; rw [z] at hlt; exact absurd hlt (Nat.not_lt.mpr this)
    · rcases List.mem_append.mp hp with hp | hp
      · rcases (hG.all p hp).2 with q9 | ⟨y, hy, q9⟩
        · exact a2 (z.symm.trans q9)
        · exact a4 y hy (q9.trans z)
      · exact a3 p hp z
    · rcases nf.cells y hy with hy | ⟨hv, _⟩
      · exact a4 y hy z
      · rw [z] at hv; exact Nat.lt_irrefl _ (Nat.lt_of_lt_of_le (Nat.lt_trans hv hlt) nf.new)

theorem WF.enter {n' : Nat} {A' : Around} (W : WF TS n c A env) (h : Rel prog w c env σ s) {G : List (Addr × Obj)} (hG : FrameG s.heap env G) {env' : Env} {loc : String → Option LV} {h' : Heap}
    (nf : NewFrame c env env' loc s.heap h') (room : A'.depth + n' < recursionLimit) (units : A'.units + 64 * n' < cLine) (frl : ∀ L, env'.frame = some L → L ≤ env'.locals) (hhd : A'.handled = A.handled)
    (fr : env'.frame = some env'.locals → ∃ outer, A'.frames = some (env' :: outer) ∧ ∀ e ∈ outer, e.scope.kind ≠ .module ∧ ∃ L o, e.frame = some L ∧ (L, o) ∈ G ++ c.G ∧ c.base.get? L = none ∧ ∃ es ep, o.data = .dict es ep) : WF TS n' (c.more G) A' env' := by
  obtain ⟨m, ⟨oL, es, ep, e1, _⟩, _⟩ := h.ns
  have hL := Heap.lt_size e1
  have ab := W.sep.above
  have nw := nf.new
  have gl : ∀ p ∈ G ++ c.G, p.1 < s.heap.objs.size := fun p hp => by
    rcases List.mem_append.mp hp with hp | hp
    · exact Heap.lt_size (hG.all p hp).1
    · obtain ⟨og, g, _⟩ := h.guard p hp; exact Heap.lt_size g
  have cl : ∀ y ∈ env.cells, y.2 < s.heap.objs.size := fun y hy => by
    obtain ⟨v, oc, c1, _⟩ := h.cin y hy; exact Heap.lt_size c1
  refine ⟨⟨Nat.le_trans ab (Nat.le_trans (Nat.le_of_lt hL) nw), fun p hp => Nat.ne_of_lt (Nat.lt_of_lt_of_le (gl p hp) nw), fun y hy => ?_, fun y hy => ?_, nf.cellU, fun p hp y hy hlt => ?_, nf.kind, nf.glob, nf.bui⟩, room, units, W.top, frl, fun q e0 h0 => let ⟨o, vs, a, b⟩ := W.hand q e0 (hhd ▸ h0); ⟨o, vs, List.mem_append_right _ a, b⟩, fr⟩
  · rcases nf.cells y hy with hy | ⟨hv, _⟩
    · exact Nat.ne_of_lt (Nat.lt_of_lt_of_le (cl y hy) nw)
    · exact Nat.ne_of_gt hv
  · rcases nf.cells y hy with hy | ⟨hv, _⟩
    · exact W.sep.cellB y hy
    · show c.base.get? y.2 = none
      cases q : c.base.get? y.2 with
      | none => rfl
      | some o => exact absurd (Heap.lt_size q) (Nat.not_lt.mpr (Nat.le_trans (Nat.le_trans ab (Nat.le_trans (Nat.le_of_lt hL) nw)) (Nat.le_of_lt hv)))
  · exact Nat.ne_of_lt (Nat.lt_trans (Nat.lt_of_lt_of_le (gl p hp) nw) hlt)

theorem Rel.leave (h : Rel prog w c env σ s) {G : List (Addr × Obj)} (hG : FrameG s.heap env G) {env' : Env} {σ' : LS} {s' : Shared} (r : Rel prog w (c.more G) env' σ' s') (im : Imm s.heap s'.heap) : Rel prog w c env ⟨σ.loc, σ'.heap⟩ s' := by
  obtain ⟨m, ⟨oL, es, ep, e1, e2, e3⟩, n2⟩ := h.ns
  refine ⟨r.keep, fun p hp => r.guard p (List.mem_append_right _ hp), ⟨m, ?_, fun x hx => (n2 x hx).imm im⟩, fun x hx => ?_, fun y hy => ?_, r.obj, fun a o e => ?_, r.gens, r.os, r.drawn⟩
  · obtain ⟨o, ho⟩ := hG.loc
    have h1 := (hG.all _ ho).1
    rw [show (env.locals, o).1 = env.locals from rfl, e1] at h1; cases h1
    obtain ⟨og, g, g1, g2, _⟩ := r.guard _ (List.mem_append_left _ ho)
    exact ⟨og, es, ep, g, g2.trans e2, e3⟩
  · obtain ⟨a, v, f1, ⟨oc, f2, f3⟩, f4⟩ := h.cell x hx
    obtain ⟨o, ho⟩ := hG.cells _ (mem_of_lookup f1)
    have h1 := (hG.all _ ho).1
    dsimp only at h1
    rw [f2] at h1; cases h1
    obtain ⟨og, g, g1, g2, _⟩ := r.guard _ (List.mem_append_left _ ho)
    exact ⟨a, v, f1, ⟨og, g, g2.trans f3⟩, f4.imm im⟩
  · obtain ⟨v, oc, f2, f3⟩ := h.cin y hy
    obtain ⟨o, ho⟩ := hG.cells _ hy
    have h1 := (hG.all _ ho).1
    dsimp only at h1
    rw [f2] at h1; cases h1
    obtain ⟨og, g, g1, g2, _⟩ := r.guard _ (List.mem_append_left _ ho)
    exact ⟨v, og, g, g2.trans f3⟩
  · obtain ⟨a1, a2, a3, a4⟩ := r.dom a o e
    obtain ⟨o', ho⟩ := hG.loc
    refine ⟨a1, fun z => a3 _ (List.mem_append_left _ ho) z.symm, fun p hp => a3 p (List.mem_append_right _ hp), fun y hy z => ?_⟩
    obtain ⟨o'', ho''⟩ := hG.cells y hy
    exact a3 _ (List.mem_append_left _ ho'') z
end

-- the cells of a new frame
theorem cellsFrom_mem : ∀ (names : List (Str × NameKind)) (h : Heap) (acc : List (Str × Addr)), ∀ y ∈ cellsFrom h.objs.size names acc, y ∈ acc ∨ (h.objs.size ≤ y.2 ∧ (pushCells h names).IsCell y.2 none)
  | [], h, acc, y, hy => .inl hy
  | (name, kind) :: r, h, acc, y, hy => by
    unfold cellsFrom at hy
    unfold pushCells
    split at hy
    · rename_i hk
      rw [if_pos hk]
      have ih := cellsFrom_mem r (h.push { cls := .type "cell", data := .cell none }) ((name, h.objs.size) :: acc) y (by rw [Heap.size_push]; exact hy)
      rw [Heap.size_push] at ih
      rcases ih with ih | ⟨ih, ic⟩
      · rcases List.mem_cons.mp ih with rfl | ih
        · exact .inr ⟨Nat.le_refl _, ⟨_, pushCells_keeps _ _ _ _ (Heap.get?_push_size _ rfl), rfl⟩⟩
        · exact .inl ih
      · exact .inr ⟨Nat.le_of_succ_le ih, ic⟩
    · rename_i hk
      rw [if_neg hk]
      exact cellsFrom_mem r h acc y hy
theorem cellsFrom_uniq : ∀ (names : List (Str × NameKind)) (N : Nat) (acc : List (Str × Addr)), (∀ y ∈ acc, y.2 < N) → (∀ y ∈ acc, ∀ y' ∈ acc, y.2 = y'.2 → y.1 = y'.1) → ∀ y ∈ cellsFrom N names acc, ∀ y' ∈ cellsFrom N names acc, y.2 = y'.2 → y.1 = y'.1
  | [], N, acc, _, h => h
  | (name, kind) :: r, N, acc, hl, h => by
    unfold cellsFrom
    split
    · refine cellsFrom_uniq r (N + 1) ((name, N) :: acc) (fun y hy => ?_) (fun y hy y' hy' e => ?_)
      · rcases List.mem_cons.mp hy with rfl | hy
        · exact Nat.lt_succ_self _
        · exact Nat.lt_succ_of_lt (hl y hy)
      · rcases List.mem_cons.mp hy with rfl | hy <;> rcases List.mem_cons.mp hy' with rfl | hy'
        · rfl
        · have := hl y' hy'; rw [← e] at this; exact absurd this (Nat.lt_irrefl _)
        · have := hl y hy; rw [e] at this; exact absurd this (Nat.lt_irrefl _)
        · exact h y hy y' hy' e
    · exact cellsFrom_uniq r N acc hl h
theorem cellsFrom_keep : ∀ (names : List (Str × NameKind)) (N : Nat) (acc : List (Str × Addr)) (x : Str), (∀ y ∈ names, y.1 = x → y.2 ≠ .cell) → (cellsFrom N names acc).lookup x = acc.lookup x
  | [], N, acc, x, _ => rfl
  | (name, kind) :: r, N, acc, x, h => by
    unfold cellsFrom
    split
    · rename_i hk
      rw [cellsFrom_keep r (N + 1) _ x fun y hy => h y (.tail _ hy), List.lookup_cons]
      have : (x == name) = false := by
        cases q : x == name with
        | false => rfl
        | true => exact absurd (by simpa using hk) (h (name, kind) (.head _) (beq_iff_eq.mp q).symm)
      rw [this]
    · exact cellsFrom_keep r N acc x fun y hy => h y (.tail _ hy)
theorem cellsFrom_old : ∀ (names : List (Str × NameKind)) (N N0 : Nat) (acc : List (Str × Addr)) (x : Str), N0 ≤ N → (∃ a, acc.lookup x = some a ∧ N0 ≤ a) → ∃ a, (cellsFrom N names acc).lookup x = some a ∧ N0 ≤ a
  | [], N, N0, acc, x, _, h => h
  | (name, kind) :: r, N, N0, acc, x, hN, h => by
    unfold cellsFrom
    split
    · refine cellsFrom_old r (N + 1) N0 _ x (Nat.le_succ_of_le hN) ?_
      rw [List.lookup_cons]
      cases x == name
      · exact h
      · exact ⟨N, rfl, hN⟩
    · exact cellsFrom_old r N N0 acc x hN h
theorem cellsFrom_own : ∀ (names : List (Str × NameKind)) (N : Nat) (acc : List (Str × Addr)) (x : Str), (x, .cell) ∈ names → ∃ a, (cellsFrom N names acc).lookup x = some a ∧ N ≤ a
  | (name, kind) :: r, N, acc, x, h => by
    unfold cellsFrom
    rcases List.mem_cons.mp h with q | h
    · cases q
      rw [if_pos (by rfl)]
      exact cellsFrom_old r (N + 1) N _ _ (Nat.le_succ _) ⟨N, by simp, Nat.le_refl _⟩
    · split
      · obtain ⟨a, h1, h2⟩ := cellsFrom_own r (N + 1) ((name, N) :: acc) x h
        exact ⟨a, h1, Nat.le_of_succ_le h2⟩
      · exact cellsFrom_own r N acc x h
end Mine
end
noncomputable section
open PySem PySem.W PyProof.Rows PySem.Calls PySem.SeqAt
set_option Elab.async false
set_option linter.unusedVariables false
set_option linter.unusedSimpArgs false
namespace Mine

def clOf (scope : Scope) (env : Env) : List (Str × Addr) := ((scope.names.filter fun y => y.2 == .free).reverse).map fun y => (y.1, (env.cells.lookup y.1).getD 0)
def compEnv (scope : Scope) (env : Env) (C : Addr) : Env :=
  { scope := relabel scope env, locals := C, globals := env.globals, cells := cellsFrom (C + 1) scope.names (clOf scope env), qual := env.qual, func := none, code := env.code, frame := env.frame, builtins := env.builtins }
def compOk (scope : Scope) (env : Env) (own : List String) : Bool :=
  scope.kind == .function && scope.names.all (fun y => scope.names.lookup y.1 == some y.2) && ((scope.names.filter fun y => y.2 == .local || y.2 == .cell).map (·.1)) == own.map Str.ofString
    && scope.names.all fun y => y.2 != .free || ((env.cells.lookup y.1).isSome && (env.kindOf y.1 == some .cell || env.kindOf y.1 == some .free))

structure CompF (scope : Scope) (env : Env) (own : List String) : Prop where
  kind : scope.kind = .function
  uniq : ∀ y ∈ scope.names, scope.names.lookup y.1 = some y.2
  own : (scope.names.filter fun y => y.2 == .local || y.2 == .cell).map (·.1) = own.map Str.ofString
  free : ∀ y ∈ scope.names, y.2 = .free → (env.cells.lookup y.1).isSome = true ∧ (env.kindOf y.1 = some .cell ∨ env.kindOf y.1 = some .free)
theorem compF {scope : Scope} {env : Env} {own : List String} (h : compOk scope env own = true) : CompF scope env own := by
  unfold compOk at h
  simp only [Bool.and_eq_true, List.all_eq_true] at h
  obtain ⟨⟨⟨h1, h2⟩, h3⟩, h4⟩ := h
  refine ⟨by simpa using h1, fun y hy => by simpa using h2 y hy, by simpa using h3, fun y hy hf => ?_⟩
  have := h4 y hy
  rw [hf] at this
  simpa using this

theorem closure_aux (env : Env) : ∀ (names : List (Str × NameKind)) (acc : List (Str × Addr)), (∀ y ∈ names, y.2 = .free → (env.cells.lookup y.1).isSome = true) →
    (forIn names acc (fun (x : Str × NameKind) (cs : List (Str × Addr)) => (if (x.2 == .free) = true then do let a ← cellOf env x.1; pure (ForInStep.yield ((x.1, a) :: cs)) else pure (ForInStep.yield cs) : Sem (ForInStep (List (Str × Addr)))))) =
      pure ((((names.filter fun y => y.2 == .free).reverse).map fun y => (y.1, (env.cells.lookup y.1).getD 0)) ++ acc)
  | [], acc, _ => by simp
  | (x, k) :: r, acc, h => by
    rw [List.forIn_cons]
    by_cases hk : (k == NameKind.free) = true
    · obtain ⟨a, ha⟩ := Option.isSome_iff_exists.mp (h (x, k) (.head _) (by simpa using hk))
      have hc : cellOf env x = pure a := by unfold cellOf; rw [ha]
      simp only [hk, if_true, hc, pure_bind]
      rw [closure_aux env r _ fun y hy => h y (.tail _ hy)]
      simp [List.filter_cons, hk, ha]
    · simp only [hk, if_false, pure_bind, Bool.false_eq_true]
      rw [closure_aux env r _ fun y hy => h y (.tail _ hy)]
      simp [List.filter_cons, hk]
theorem closure_of {scope : Scope} {env : Env} {own : List String} (h : CompF scope env own) : closureFor scope env = pure (clOf scope env) := by
  have := closure_aux env scope.names [] fun y hy hf => (h.free y hy hf).1
  unfold closureFor
  simp only [List.append_nil] at this
  refine Eq.trans (congrArg (fun z => z >>= pure) this) ?_
  rfl

theorem relabel_lookup {env : Env} : ∀ {names : List (Str × NameKind)} {x : Str} {k : NameKind},
    (names.map fun (n, k) => if (k == NameKind.free && env.scope.kind == .function && env.kindOf n == some .cell) then (n, NameKind.cell) else (n, k)).lookup x = some k →
      ∃ k0, names.lookup x = some k0 ∧ (k = k0 ∨ (k0 = .free ∧ k = .cell))
  | [], _, _, h => by simp at h
  | (n, k1) :: r, x, k, h => by
    have ih := @relabel_lookup env r x k
    rw [List.map_cons] at h
    dsimp only at h
    rw [List.lookup_cons]
    cases hx : x == n with
    | true =>
      refine ⟨k1, rfl, ?_⟩
      by_cases hc : (k1 == NameKind.free && env.scope.kind == .function && env.kindOf n == some .cell) = true
      · rw [if_pos hc, List.lookup_cons, hx] at h
        simp only [Bool.and_eq_true, beq_iff_eq] at hc
        exact .inr ⟨hc.1.1, (Option.some.inj h).symm⟩
      · rw [if_neg hc, List.lookup_cons, hx] at h
        exact .inl (Option.some.inj h).symm
    | false =>
      refine ih ?_
      by_cases hc : (k1 == NameKind.free && env.scope.kind == .function && env.kindOf n == some .cell) = true
      · rw [if_pos hc, List.lookup_cons, hx] at h; exact h
      · rw [if_neg hc, List.lookup_cons, hx] at h; exact h

theorem lookup_map_key {f : Str → Addr} : ∀ {l : List (Str × NameKind)} {x : Str}, (∃ k, (x, k) ∈ l) → (l.map fun y => (y.1, f y.1)).lookup x = some (f x)
  | [], _, ⟨k, h⟩ => nomatch h
  | (n, k0) :: r, x, ⟨k, h⟩ => by
    rw [List.map_cons, List.lookup_cons]
    cases hx : x == n with
    | true => rw [beq_iff_eq.mp hx]
    | false =>
      refine lookup_map_key (l := r) ⟨k, ?_⟩
      rcases List.mem_cons.mp h with q | q
      · cases q; simp at hx
      · exact q

section
variable {prog : Program} {w : World} {TS : TopS} {c : Cx} {A : Around} {env : Env} {σ : LS} {s : Shared} {n : Nat}

theorem CompF.isOwn {scope : Scope} {own : List String} (F : CompF scope env own) {x : String} {k : NameKind} (h : scope.names.lookup (Str.ofString x) = some k) : own.contains x = true ↔ (k = .local ∨ k = .cell) := by
  have e : own.contains x = true ↔ Str.ofString x ∈ own.map Str.ofString := by
    rw [List.contains_iff_mem, List.mem_map]
    exact ⟨fun q => ⟨x, q, rfl⟩, fun ⟨y, q, r⟩ => by rw [← ofString_inj.mp r]; exact q⟩
  rw [e, ← F.own, List.mem_map]
  constructor
  · rintro ⟨y, hy, hx⟩
    obtain ⟨h1, h2⟩ := List.mem_filter.mp hy
    have := F.uniq y h1
    rw [hx, h] at this; cases this
    simpa using h2
  · intro hk
    refine ⟨(Str.ofString x, k), List.mem_filter.mpr ⟨mem_of_lookup h, ?_⟩, rfl⟩
    rcases hk with rfl | rfl <;> rfl

/-- the frame of a comprehension's own names -/
theorem comp_frame {scope : Scope} {own : List String} (F : CompF scope env own) (W : WF TS n c A env) (h : Rel prog w c env σ s) :
    NewFrame c env (compEnv scope env s.heap.objs.size) (fun x => if own.contains x = true then none else σ.loc x) s.heap (pushCells (s.heap.push { cls := .type "dict", data := .dict #[] }) scope.names) := by
  have k : ∀ b o, s.heap.get? b = some o → (pushCells (s.heap.push { cls := .type "dict", data := .dict #[] }) scope.names).get? b = some o := fun b o e => pushCells_keeps _ _ _ _ (Heap.get?_push_of_some _ e)
  have im := Imm.of_keeps k
  have hcl : ∀ y ∈ clOf scope env, y ∈ env.cells := fun y hy => by
    obtain ⟨z, hz, rfl⟩ := List.mem_map.mp hy
    obtain ⟨h1, h2⟩ := List.mem_filter.mp (List.mem_reverse.mp hz)
    obtain ⟨a, ha⟩ := Option.isSome_iff_exists.mp (F.free z h1 (by simpa using h2)).1
    rw [ha]; exact mem_of_lookup ha
  have hmem : ∀ y ∈ (compEnv scope env s.heap.objs.size).cells, y ∈ clOf scope env ∨ (s.heap.objs.size < y.2 ∧ (pushCells (s.heap.push { cls := .type "dict", data := .dict #[] }) scope.names).IsCell y.2 none) := fun y hy => by
    have := cellsFrom_mem scope.names (s.heap.push { cls := .type "dict", data := .dict #[] }) (clOf scope env) y (by rw [Heap.size_push]; exact hy)
    rw [Heap.size_push] at this
    exact this
  refine ⟨Nat.le_refl _, ⟨fun _ => none, (Heap.Ns.new s.heap (.type "dict")).keeps (pushCells_keeps _ _), fun x hx => ?_⟩, fun x hx => ?_, fun y hy => ?_, ?_, F.kind, W.sep.glob, W.sep.bui⟩
  · obtain ⟨k0, h1, h2⟩ := relabel_lookup hx
    have : k0 = .local := by rcases h2 with rfl | ⟨_, q⟩; rfl; cases q
    rw [if_pos ((F.isOwn h1).mpr (.inl this))]; trivial
  · have hx' : ∃ k0, scope.names.lookup (Str.ofString x) = some k0 ∧ (k0 = .cell ∨ k0 = .free) := by
      rcases hx with hx | hx
      · obtain ⟨k0, h1, h2⟩ := relabel_lookup hx
        exact ⟨k0, h1, by rcases h2 with q | q; exact .inl q.symm; exact .inr q.1⟩
      · obtain ⟨k0, h1, h2⟩ := relabel_lookup hx
        exact ⟨k0, h1, by rcases h2 with q | q; exact .inr q.symm; cases q.2⟩
    obtain ⟨k0, h1, h2⟩ := hx'
    rcases h2 with rfl | rfl
    · obtain ⟨a, ha, hlt⟩ := cellsFrom_own scope.names (s.heap.objs.size + 1) (clOf scope env) (Str.ofString x) (mem_of_lookup h1)
      rcases hmem _ (mem_of_lookup ha) with q | ⟨_, q⟩
      · obtain ⟨v, oc, c1, _⟩ := h.cin _ (hcl _ q)
        exact absurd (Heap.lt_size c1) (Nat.not_lt.mpr (Nat.le_of_succ_le hlt))
      · refine ⟨a, none, ha, q, ?_⟩
        rw [if_pos ((F.isOwn h1).mpr (.inr rfl))]; trivial
    · have hno : ¬ own.contains x = true := fun q => by rcases (F.isOwn h1).mp q with q | q <;> cases q
      have e1 : (compEnv scope env s.heap.objs.size).cells.lookup (Str.ofString x) = (clOf scope env).lookup (Str.ofString x) := cellsFrom_keep _ _ _ _ fun y hy hyx => by
        have := F.uniq y hy; rw [hyx, h1] at this; intro q; rw [q] at this; cases this
      obtain ⟨a, v, f1, f2, f3⟩ := h.cell x (F.free _ (mem_of_lookup h1) rfl).2
      have e2 : (clOf scope env).lookup (Str.ofString x) = some ((env.cells.lookup (Str.ofString x)).getD 0) := lookup_map_key (f := fun z => (env.cells.lookup z).getD 0) ⟨.free, List.mem_reverse.mpr (List.mem_filter.mpr ⟨mem_of_lookup h1, rfl⟩)⟩
      rw [if_neg hno]
      refine ⟨a, v, ?_, f2.keeps k, f3.imm im⟩
      rw [e1, e2, f1]; rfl
  · rcases hmem y hy with q | ⟨q1, q2⟩
    · exact .inl (hcl y q)
    · exact .inr ⟨q1, none, q2⟩
  · refine cellsFrom_uniq _ _ _ (fun y hy => ?_) (fun y hy y' hy' e => W.sep.cellU _ (hcl y hy) _ (hcl y' hy') e)
    obtain ⟨v, oc, c1, _⟩ := h.cin _ (hcl _ hy)
    exact Nat.lt_succ_of_lt (Heap.lt_size c1)

theorem newCompEnv {M : Model} {scope : Scope} {cl : List (Str × Addr)} {Q : Env → Shared → Prop} {E : Value → Shared → Prop}
    (q : Q { scope, locals := s.heap.objs.size, globals := env.globals, cells := cellsFrom (s.heap.objs.size + 1) scope.names cl, qual := env.qual, func := none, code := env.code, frame := env.frame, builtins := env.builtins } { s with heap := pushCells (s.heap.push { cls := .type "dict", data := .dict #[] }) scope.names }) :
    wpAny M A (newFunctionEnv scope env.globals cl [] env.qual none .none (some env)) Q E s := by
  simp only [newFunctionEnv, Option.isSome_some, if_true]
  refine wpAny_bind (wpAny_alloc ?_)
  refine wpAny_bind (wpAny_layCells _ (fun name kind cells => by cases hkc : kind == NameKind.cell <;> simp [hkc]) _ _ _ _ ?_)
  rw [show ({ s with heap := s.heap.push { cls := .type "dict", data := .dict #[] } } : Shared).heap.objs.size = s.heap.objs.size + 1 from Heap.size_push ..]
  rw [List.forIn_nil]
  exact wpAny_bind (wpAny_pure (wpAny_pure q))
end
end Mine
end
noncomputable section
open PySem PySem.W PyProof.Rows PySem.Calls PySem.SeqAt
set_option Elab.async false
set_option linter.unusedVariables false
set_option linter.unusedSimpArgs false
namespace Mine

abbrev noE : LX → LS → Prop := fun _ _ => False
def pcompL (g : LS → Prop) (bind : LV → PTx Unit) (body : PTx Unit) : List LV → PTx Unit
  | [] => fun Q _ σ => g σ ∧ Q () σ
  | v :: vs => fun Q E σ => g σ ∧ bind v (fun _ σ' => body (fun _ σ'' => pcompL g bind body vs Q E σ'') E σ') E σ
/-- a comprehension's inside: names of its own, the others as they are -/
abbrev pown (own : List String) (m : PTx Unit) : PTx Unit := fun Q _ σ => m (fun _ σ' => Q () ⟨σ.loc, σ'.heap⟩) noE ⟨fun x => if own.contains x = true then none else σ.loc x, σ.heap⟩
abbrev pcomp (lo : LO) (it : PTx LIt) (own : List String) (bind : LV → PTx Unit) (body : LV → PTx Unit) : PTx LV := fun Q E σ =>
  it (fun r σ₁ => ∀ D, σ₁.heap D = none → pown own (pcompL r.2 bind (body (.ref D)) r.1) (fun _ σ₂ => Q (.ref D) σ₂) E (σ₁.put D lo)) E σ

section
variable {prog : Program} {w : World} {TS : TopS} {c : Cx} {A : Around} {env : Env} {σ : LS} {s : Shared} {n : Nat}

abbrev Fls : Value → Shared → Prop := fun _ _ => False

/-- the loop of a comprehension, by a rule for its turn -/
theorem comp_loop {e : Expr} {depth : Nat} {tgt : Expr} {it acc : Value} {Body : (Shared → Prop) → Shared → Prop} {St : Nat → List (Addr × Obj) → Prop} {addrs : List Addr} {items : List LV} {g : LS → Prop} {h0 : Heap} {bind : LV → PTx Unit} {mb : PTx Unit}
    (hstep : ∀ (R : Result → Shared → Prop) s, wpAny (model prog w) A (pyNext it) (fun r s₁ => match r with
      | none => R (.ok .next) s₁
      | some v => wpAny (model prog w) A (letOwnedTupleGo tgt it v) (fun _ s₂ => wpAny (model prog w) A (assign tgt env v) (fun _ s₃ => Body (fun s₄ => codeAny (model prog w) A (.compLoop e depth it acc env) R s₄) s₃) Fls s₂) Fls s₁) Fls s → codeAny (model prog w) A (.compLoop e depth it acc env) R s)
    (W : WF TS n c A env) (ok : NextOK prog w c A env tgt it St addrs items g h0) (ht : Sim1 prog w TS n A env (assign tgt env) REq bind)
    (hb : ∀ c σ s, WF TS n c A env → Rel prog w c env σ s → ∀ (Q : Unit → LS → Prop) (K : Shared → Prop), mb Q noE σ → (∀ f σ' s', Rel prog w c env σ' s' → Imm s.heap s'.heap → Q f σ' → K s') → Body K s)
    {R : Result → Shared → Prop} {Q : Unit → LS → Prop} {O₀ : List (Addr × Obj)} (h : Rel prog w (c.more O₀) env σ s) (st₀ : St 0 O₀) (i0 : Imm h0 s.heap) (q : pcompL g bind mb items Q noE σ)
    (fin : ∀ f σ' s', Rel prog w c env σ' s' → Imm s.heap s'.heap → Q f σ' → R (.ok .next) s') : codeAny (model prog w) A (.compLoop e depth it acc env) R s := by
  have key : ∀ (k : Nat) (i : Nat), items.length - i = k → i ≤ items.length → ∀ O σ₁ s₁, St i O → Rel prog w (c.more O) env σ₁ s₁ → Imm s.heap s₁.heap → pcompL g bind mb (items.drop i) Q noE σ₁ →
      codeAny (model prog w) A (.compLoop e depth it acc env) R s₁ := by
    intro k
    induction k with
    | zero =>
      intro i hk hle O σ₁ s₁ st₁ h₁ i₁ q₁
      obtain rfl : i = items.length := by omega
      rw [List.drop_length] at q₁
      obtain ⟨g₁, q₁⟩ := q₁
      exact hstep R s₁ (ok.done O σ₁ s₁ _ _ g₁ (i0.trans i₁) st₁ h₁ fun s₃ h₃ i₃ => fin _ σ₁ s₃ h₃ (i₁.trans i₃) q₁)
    | succ k ih =>
      intro i hk hle O σ₁ s₁ st₁ h₁ i₁ q₁
      have hlt : i < items.length := by omega
      rw [List.drop_eq_getElem_cons hlt] at q₁
      obtain ⟨g₁, q₁⟩ := q₁
      have W' : ∀ O', St (i + 1) O' → WF TS n (c.more O') A env := fun O' st' => W.more fun p hp => ok.off _ (ok.sub (i + 1) O' st' p hp)
      refine hstep R s₁ (wpAny_mono (ok.item i O σ₁ s₁ items[i] (fun v s₂ => wpAny (model prog w) A (assign tgt env v) (fun _ s₃ => Body (fun s₄ => codeAny (model prog w) A (.compLoop e depth it acc env) R s₄) s₃) Fls s₂) Fls (by simp [hlt]) g₁ (i0.trans i₁) st₁ h₁ fun v s₉ O' rv st₉ h₉ i₉ => ?_) (fun r s₉ p => ?_) fun _ _ x => x)
      · refine wpAny_mono ((ht _ σ₁ s₉ _ _ (W' O' st₉) h₉ rv).go (Imm.refl _) q₁ (P := fun _ s₃ => Body (fun s₄ => codeAny (model prog w) A (.compLoop e depth it acc env) R s₄) s₃) fun _ _ σ₃ s₃ _ h₃ i₃ j₃ q₃ => ?_) (fun _ _ x => x) fun _ _ x => by obtain ⟨_, _, _, _, _, f⟩ := x; exact f
        refine hb _ σ₃ s₃ (W' O' st₉) h₃ _ _ q₃ fun f σ₄ s₄ h₄ i₄ q₄ => ?_
        exact ih (i + 1) (by omega) hlt O' σ₄ s₄ st₉ h₄ (((i₁.trans i₉).trans i₃).trans i₄) q₄
      · obtain ⟨v, rfl, p⟩ := p
        exact p
  exact key _ 0 rfl (Nat.zero_le _) O₀ σ s st₀ h (Imm.refl _) (by simpa using q)

theorem Rel.perm {c' : Cx} (h : Rel prog w c env σ s) (hb : c'.base = c.base) (hg : ∀ p, p ∈ c'.G ↔ p ∈ c.G) (h1 : c'.gens = c.gens) (h2 : c'.os = c.os) (h3 : c'.drawn = c.drawn) : Rel prog w c' env σ s :=
  ⟨by rw [hb]; exact h.keep, fun p hp => h.guard p ((hg p).mp hp), h.ns, h.cell, h.cin, h.obj, fun a o e => let ⟨a1, a2, a3, a4⟩ := h.dom a o e; ⟨by rw [hb]; exact a1, a2, fun p hp => a3 p ((hg p).mp hp), a4⟩, h.gens.trans h1.symm, h.os.trans h2.symm, h.drawn.trans h3.symm⟩

/-- a comprehension from where its iterator and the new list or dict are made -/
theorem comp_core {e : Expr} {tgt : Expr} {it acc : Value} {scope : Scope} {own : List String} {St : Nat → List (Addr × Obj) → Prop} {addrs : List Addr} {items : List LV} {g : LS → Prop} {bind : LV → PTx Unit} {mb : PTx Unit} {s₂ s₃ : Shared} {O : List (Addr × Obj)}
    {R : Result → Shared → Prop} {Q : Unit → LS → Prop} {E : LX → LS → Prop}
    (F : CompF scope env own) (W : WF TS n c A env) (iok : ItOK prog w c A env tgt it St addrs items g s₂.heap) (st₀ : St 0 O) (h₃ : Rel prog w (c.more O) env σ s₃) (i₂ : Imm s₂.heap s₃.heap) (hsz : s₂.heap.objs.size ≤ s₃.heap.objs.size)
    (hloop : ∀ (c' : Cx) σ₄ s₄, WF TS n c' A (compEnv scope env s₃.heap.objs.size) → NextOK prog w c' A (compEnv scope env s₃.heap.objs.size) tgt it St addrs items g s₂.heap → Rel prog w (c'.more O) (compEnv scope env s₃.heap.objs.size) σ₄ s₄ → Imm s₂.heap s₄.heap →
      pcompL g bind mb items (fun _ σ' => Q () ⟨σ.loc, σ'.heap⟩) noE σ₄ → (∀ σ' s', Rel prog w c' (compEnv scope env s₃.heap.objs.size) σ' s' → Imm s₄.heap s'.heap → Q () ⟨σ.loc, σ'.heap⟩ → R (.ok .next) s') → codeAny (model prog w) A (.compStart e 0 it acc (compEnv scope env s₃.heap.objs.size)) R s₄)
    (q : pown own (pcompL g bind mb items) Q E σ)
    (fin : ∀ σ' s' m, Rel prog w c env σ' s' → Imm s₃.heap s'.heap → s'.heap.Ns s₃.heap.objs.size m → σ'.heap s₃.heap.objs.size = none → Q () σ' → R (.ok .next) s') :
    codeAny (model prog w) A (.compStart e 0 it acc (compEnv scope env s₃.heap.objs.size)) R { s₃ with heap := pushCells (s₃.heap.push { cls := .type "dict", data := .dict #[] }) scope.names } := by
  have k : ∀ b o, s₃.heap.get? b = some o → (pushCells (s₃.heap.push { cls := .type "dict", data := .dict #[] }) scope.names).get? b = some o := fun b o e => pushCells_keeps _ _ _ _ (Heap.get?_push_of_some _ e)
  have h₃' := h₃.less
  obtain ⟨G, hG⟩ := h₃'.frame
  have nf := comp_frame F W h₃'
  have h₄ := (h₃.enter hG (tk := s₃.toks) k ⟨nf.new, nf.ns, nf.cell, nf.cells, nf.cellU, nf.kind, nf.glob, nf.bui⟩)
  have h₅ : Rel prog w ((c.more G).more O) (compEnv scope env s₃.heap.objs.size) ⟨fun x => if own.contains x = true then none else σ.loc x, σ.heap⟩ { s₃ with heap := pushCells (s₃.heap.push { cls := .type "dict", data := .dict #[] }) scope.names } :=
    h₄.perm rfl (fun p => by simp only [List.mem_append]; exact ⟨fun q => by rcases q with q | q | q <;> simp [q], fun q => by rcases q with q | q | q <;> simp [q]⟩) rfl rfl rfl
  have W' : WF TS n (c.more G) A (compEnv scope env s₃.heap.objs.size) := by
    obtain ⟨m, ⟨oL, es, ep, e1, _⟩, _⟩ := h₃'.ns
    have hL := Heap.lt_size e1
    refine W.enter h₃' hG nf W.room W.units (fun L hL' => Nat.le_trans (W.frl L hL') (Nat.le_of_lt hL)) rfl fun hfr => ?_
    exact absurd (Nat.le_trans (Nat.succ_le_of_lt hL) (W.frl _ hfr)) (Nat.not_succ_le_self _)
  have ok := iok.2 (c.more G) (compEnv scope env s₃.heap.objs.size) rfl fun a ha => by
    obtain ⟨⟨⟨f1, f2⟩, f3, f4⟩, flt⟩ := iok.1 a ha
    have flt' := Nat.lt_of_lt_of_le flt hsz
    refine ⟨⟨Nat.ne_of_lt flt', fun y hy => ?_⟩, f3, fun p hp => ?_⟩
    · rcases nf.cells y hy with hy | ⟨hv, _⟩
      · exact f2 y hy
      · exact Nat.ne_of_gt (Nat.lt_trans flt' hv)
    · rcases List.mem_append.mp hp with hp | hp
      · rcases (hG.all p hp).2 with z | ⟨y, hy, z⟩
        · rw [z]; exact Ne.symm f1
        · rw [← z]; exact f2 y hy
      · exact f4 p hp
  refine hloop (c.more G) _ _ W' ok h₅ (i₂.trans (Imm.of_keeps k)) q fun σ' s' r im q' => ?_
  have im' := (Imm.of_keeps k).trans im
  obtain ⟨m, n1, _⟩ := r.ns
  refine fin _ s' m (h₃'.leave hG r im') im' n1 ?_ q'
  cases z : σ'.heap s₃.heap.objs.size with
  | none => rfl
  | some o => exact absurd rfl (r.dom _ o z).2.1

/-- the names of a comprehension let go -/
theorem comp_gone {C : Addr} {h' : Heap} {m : Str → Option Value} (W : WF TS n c A env) {s₃ : Shared} {σ₃ : LS} (h₃ : Rel prog w c env σ₃ s₃) (hC : C = s₃.heap.objs.size) (r : Rel prog w c env σ s) (hn : s.heap.Ns C m) (ho : σ.heap C = none) (hs : Heap.SameBut C s.heap h') :
    Rel prog w c env σ { s with heap := h' } ∧ Imm s.heap h' := by
  subst hC
  have ni := notImm_ns hn
  exact ⟨r.extBut hs.extBut ni h₃.fresh_base h₃.fresh_loc h₃.fresh_G h₃.fresh_cell ho, Imm.of_extBut hs.extBut ni⟩

def BodyL (prog : Program) (w : World) (A : Around) (env : Env) (ifs : List Expr) (emit : (Shared → Prop) → Shared → Prop) (K : Shared → Prop) (s : Shared) : Prop :=
  wpAny (model prog w) A (forIn ifs true fun c r => if r = true then do let ok ← isTrue c env (eval c env); pure (ForInStep.yield ok) else pure (ForInStep.yield r)) (fun ok s₄ => if ok = true then emit K s₄ else K s₄) Fls s
def emitL (prog : Program) (w : World) (A : Around) (env : Env) (elt : Expr) (acc : Value) (K : Shared → Prop) (s : Shared) : Prop :=
  wpAny (model prog w) A (eval elt env) (fun x s₅ => wpAny (model prog w) A (call (.builtin "list.append") [acc, x]) (fun _ s₆ => K s₆) Fls s₅) Fls s

theorem step_list {elt tgt iter : Expr} {ifs : List Expr} {scope : Scope} {pos : Pos} {it acc : Value} (R : Result → Shared → Prop) (s : Shared)
    (h : wpAny (model prog w) A (pyNext it) (fun r s₁ => match r with
      | none => R (.ok .next) s₁
      | some v => wpAny (model prog w) A (letOwnedTupleGo tgt it v) (fun _ s₂ => wpAny (model prog w) A (assign tgt env v) (fun _ s₃ => BodyL prog w A env ifs (emitL prog w A env elt acc) (fun s₄ => codeAny (model prog w) A (.compLoop (.ListComp elt [⟨tgt, iter, ifs, 0⟩] scope pos) 0 it acc env) R s₄) s₃) Fls s₂) Fls s₁) Fls s) :
    codeAny (model prog w) A (.compLoop (.ListComp elt [⟨tgt, iter, ifs, 0⟩] scope pos) 0 it acc env) R s := by
  refine codeAny_of_tree ?_
  show wpAny _ A ((compTurn (.ListComp elt [⟨tgt, iter, ifs, 0⟩] scope pos) 0 it acc env).onRaise (fun x => do noteFrame x env; theTreesLotGoes x)) _ _ s
  refine wpAny_noted ?_
  rw [compTurn_list]
  refine wpAny_bind (wpAny_standAt (wpAny_bind (wpAny_mono h (fun r s₁ h₁ => ?_) fun _ _ x => x.elim)))
  cases r with
  | none => exact wpAny_pure h₁
  | some v =>
    refine wpAny_bind (wpAny_mono h₁ (fun _ s₂ h₂ => wpAny_bind (wpAny_mono h₂ (fun _ s₃ h₃ => wpAny_bind (wpAny_mono h₃ (fun ok s₄ h₄ => ?_) fun _ _ x => x.elim)) fun _ _ x => x.elim)) fun _ _ x => x.elim)
    cases ok with
    | false => exact wpAny_pure ⟨rfl, h₄⟩
    | true =>
      exact wpAny_bind (wpAny_bind (wpAny_mono h₄ (fun x s₅ h₅ => wpAny_bind (wpAny_mono h₅ (fun _ s₆ h₆ => wpAny_pure (wpAny_pure ⟨rfl, h₆⟩)) fun _ _ x => x.elim)) fun _ _ x => x.elim))

/-- the tests of a comprehension's for -/
def SimTests (prog : Program) (w : World) (TS : TopS) (n : Nat) (A : Around) (env : Env) (ifs : List Expr) (m : PTx Bool) : Prop :=
  Sim prog w TS n A env (forIn ifs true fun c r => if r = true then do let ok ← isTrue c env (eval c env); pure (ForInStep.yield ok) else pure (ForInStep.yield r)) REq m
theorem sim_tests_nil : SimTests prog w TS n A env [] (pret true) := fun c σ s W h Q E q => wpAny_tests_nil ⟨true, σ, rfl, h, Imm.refl _, q⟩
theorem sim_tests_one {e : Expr} {m : PTx Bool} (h : Sim prog w TS n A env (isTrue e env (eval e env)) REq m) : SimTests prog w TS n A env [e] m := fun c σ s W r Q E q => wpAny_tests_one (h c σ s W r Q E q)

abbrev pemit (me : PTx LV) (D : LV) : PTx Unit := pbind me fun v => pbind (plappend D [v]) fun _ => pret ()
abbrev pwhen (mt : PTx Bool) (m : PTx Unit) : PTx Unit := pbind mt fun b => fun Q E σ => if b = true then m Q E σ else Q () σ

theorem EPost.no {h0 : Heap} {v : Value} {s' : Shared} (p : EPost prog w c env h0 noE v s') : False := by
  obtain ⟨_, _, _, _, _, f⟩ := p; exact f

/-- what a turn does behind its tests -/
def SimEmit (prog : Program) (w : World) (TS : TopS) (n : Nat) (A : Around) (env : Env) (emit : (Shared → Prop) → Shared → Prop) (m : PTx Unit) : Prop :=
  ∀ c σ s, WF TS n c A env → Rel prog w c env σ s → ∀ (Q : Unit → LS → Prop) (K : Shared → Prop), m Q noE σ → (∀ f σ' s', Rel prog w c env σ' s' → Imm s.heap s'.heap → Q f σ' → K s') → emit K s
theorem emit_list {elt : Expr} {D : Nat} {me : PTx LV} (h : Sim prog w TS n A env (eval elt env) VRel me) : SimEmit prog w TS n A env (emitL prog w A env elt (.ref D)) (pemit me (.ref D)) := fun c σ s W r Q K q k => by
  refine wpAny_mono ((h c σ s W r).go (Imm.refl _) q (P := fun x s₅ => wpAny (model prog w) A (call (.builtin "list.append") [.ref D, x]) (fun _ s₆ => K s₆) Fls s₅) fun a x σ₁ s₁ ra h₁ i₁ j₁ q₁ => ?_) (fun _ _ x => x) fun _ _ x => x.no
  exact wpAny_mono ((sim_append c σ₁ s₁ (.ref D) (.ref D) [a] [x] W h₁ (.ref D) (.one ra)).go i₁ q₁ (P := fun _ s₆ => K s₆) fun b y σ₂ s₂ rb h₂ i₂ j₂ q₂ => k () σ₂ s₂ h₂ i₂ q₂) (fun _ _ x => x) fun _ _ x => x.no
theorem emit_when {ifs : List Expr} {emit : (Shared → Prop) → Shared → Prop} {mt : PTx Bool} {m : PTx Unit} (ht : SimTests prog w TS n A env ifs mt) (h : SimEmit prog w TS n A env emit m) : SimEmit prog w TS n A env (BodyL prog w A env ifs emit) (pwhen mt m) := fun c σ s W r Q K q k => by
  refine wpAny_mono ((ht c σ s W r).go (Imm.refl _) q (P := fun ok s₄ => if ok = true then emit K s₄ else K s₄) fun b x σ₁ s₁ rb h₁ i₁ j₁ q₁ => ?_) (fun _ _ x => x) fun _ _ x => x.no
  cases show b = x from rb
  cases b with
  | true =>
    simp only [if_true] at q₁ ⊢
    exact h c σ₁ s₁ W h₁ Q K q₁ fun f σ' s' r' i' q' => k f σ' s' r' (i₁.trans i') q'
  | false =>
    simp only [Bool.false_eq_true, if_false] at q₁ ⊢
    exact k () σ₁ s₁ h₁ i₁ q₁

theorem oList0 {h : Heap} (a : Addr) (e : h.get? a = some { cls := .type "list", data := .seq #[] }) : ORel prog w h a (.list []) := ⟨by decide, #[], 0, e, .nil⟩

/-- all that a list comprehension's turn needs -/
structure LComp (prog : Program) (w : World) (TS : TopS) (n : Nat) (A : Around) (env : Env) (scope : Scope) (tgt elt : Expr) (ifs : List Expr) (bind : LV → PTx Unit) (mt : PTx Bool) (me : PTx LV) : Prop where
  bind : ∀ C, Sim1 prog w TS n A (compEnv scope env C) (assign tgt (compEnv scope env C)) REq bind
  tests : ∀ C, SimTests prog w TS n A (compEnv scope env C) ifs mt
  elt : ∀ C, Sim prog w TS n A (compEnv scope env C) (eval elt (compEnv scope env C)) VRel me

/-- a list comprehension up to its end -/
theorem lcomp_go {tgt iter elt : Expr} {ifs : List Expr} {scope : Scope} {own : List String} {pos spos : Pos} {mi : PTx LIt} {bind : LV → PTx Unit} {mt : PTx Bool} {me : PTx LV} {use : Option (Value → Sem Unit)} {K : LV → LS → Prop} {E : LX → LS → Prop} {P : Value → Shared → Prop}
    (hok : compOk scope env own = true) (hs : ∀ x, foldedSetIterable iter env x = pure x) (hi : SimIt prog w TS n A env tgt iter mi) (L : LComp prog w TS n A env scope tgt elt ifs bind mt me) (W : WF TS n c A env) (h : Rel prog w c env σ s)
    (q : pcomp (.list []) mi own bind (fun D => pwhen mt (pemit me D)) K E σ)
    (fin : ∀ D C σ' s' m s₃ σ₃, Rel prog w c env σ₃ s₃ → C = s₃.heap.objs.size → Rel prog w c env σ' s' → Imm s.heap s'.heap → s'.heap.Ns C m → σ'.heap C = none → K (.ref D) σ' → compPost (model prog w) A (EPost prog w c env s.heap E) use P (.ref D) C (.ok .next) s') :
    wpAny (model prog w) A (comprehension (.ListComp elt [⟨tgt, iter, ifs, 0⟩] scope pos) scope env spos (newList []) false (eval iter env) use) P (EPost prog w c env s.heap E) s := by
  have F := compF hok
  refine wpAny_comprehension_free rfl hs (closure_of F) F.kind (fun x hx hl => by rw [F.uniq x hx, hl]) (wpAny_mono (hi c σ s W h _ E q) (fun x s₁ p => wpAny_mono p (fun it s₂ p => ?_) fun _ _ x => x) fun _ _ x => x)
  obtain ⟨St, addrs, ⟨items, g⟩, σ₁, O₀, iok, st₀, h₂, i₂, q₂⟩ := p
  dsimp only at iok q₂
  refine wpAny_newObj_type (newCompEnv ?_)
  have k : ∀ b o, s₂.heap.get? b = some o → (s₂.heap.push { cls := .type "list", dict := none, data := .seq ([] : List Value).toArray }).get? b = some o := fun b o e => Heap.get?_push_of_some _ e
  have h₃ := h₂.alloc (tk := s₂.toks) (o := .list []) k (oList0 _ (Heap.get?_push_size _ rfl))
  refine comp_core (s₂ := s₂) (s₃ := { s₂ with heap := s₂.heap.push { cls := .type "list", dict := none, data := .seq ([] : List Value).toArray } }) F W iok st₀ h₃ (Imm.of_keeps k) (by rw [Heap.size_push]; exact Nat.le_succ _) ?_ (q₂ s₂.heap.objs.size h₂.fresh_obj) ?_
  · intro c' σ₄ s₄ W' ok h₄ i₄ q₄ fin'
    have loop : codeAny (model prog w) A (.compLoop (.ListComp elt [⟨tgt, iter, ifs, 0⟩] scope pos) 0 it (.ref s₂.heap.objs.size) (compEnv scope env _)) _ s₄ :=
      comp_loop (fun R s => step_list R s) W' ok (L.bind _) (emit_when (L.tests _) (emit_list (L.elt _))) h₄ st₀ i₄ q₄ fun f σ' s' r' i' q' => fin' σ' s' r' i' q'
    exact codeAny_compStart_list loop (ok.self 0 O₀ σ₄ s₄ _ _ st₀ h₄ loop)
  · intro σ' s' m r' i' n' o' q'
    exact fin _ _ σ' s' m _ _ h₃.less rfl r' ((i₂.trans (Imm.of_keeps k)).trans i') n' o' q'

theorem sim_ListComp {tgt iter elt : Expr} {ifs : List Expr} {scope : Scope} {own : List String} {pos : Pos} {mi : PTx LIt} {bind : LV → PTx Unit} {mt : PTx Bool} {me : PTx LV}
    (hok : compOk scope env own = true) (hs : ∀ x, foldedSetIterable iter env x = pure x) (hi : SimIt prog w TS n A env tgt iter mi) (L : LComp prog w TS n A env scope tgt elt ifs bind mt me) :
    Sim prog w TS n A env (eval (.ListComp elt [⟨tgt, iter, ifs, 0⟩] scope pos) env) VRel (pcomp (.list []) mi own bind (fun D => pwhen mt (pemit me D))) := fun c σ s W h Q E q => by
  rw [eval_ListComp]
  refine lcomp_go (use := none) hok hs hi L W h q fun D C σ' s' m s₃ σ₃ h₃ hC r' i' n' o' q' => ?_
  refine ⟨m, n', fun h'' hs'' => ?_⟩
  obtain ⟨r, im⟩ := comp_gone W h₃ hC r' n' o' hs''
  exact ⟨_, σ', .ref D, r, i'.trans im, q'⟩

theorem Rel.addGuard {C : Addr} {o : Obj} (h : Rel prog w c env σ s) (e : s.heap.get? C = some o) (hσ : σ.heap C = none) : Rel prog w (c.more [(C, o)]) env σ s :=
  ⟨h.keep, fun p hp => (List.mem_append.mp hp).elim (fun q => by rw [List.mem_singleton.mp q]; exact ⟨o, e, rfl, rfl, fun _ => rfl⟩) (h.guard p), h.ns, h.cell, h.cin, h.obj,
    fun a lo ea => let ⟨a1, a2, a3, a4⟩ := h.dom a lo ea; ⟨a1, a2, fun p hp => (List.mem_append.mp hp).elim (fun q z => by rw [List.mem_singleton.mp q] at z; dsimp only at z; rw [z, ea] at hσ; cases hσ) (a3 p), a4⟩, h.gens, h.os, h.drawn⟩

/-- the value stored while the comprehension's names still stand -/
theorem used_go {C D : Addr} {y : String} {py : Pos} {m : Str → Option Value} {Q : LF → LS → Prop} {E : LX → LS → Prop} {h0 : Heap} {s₃ : Shared} {σ₃ : LS} (hk : StoreOk env y) (W : WF TS n c A env) (h₃ : Rel prog w c env σ₃ s₃) (hC : C = s₃.heap.objs.size) (r : Rel prog w c env σ s) (i : Imm h0 s.heap) (hn : s.heap.Ns C m) (ho : σ.heap C = none)
    (q : Q .next (σ.set y (.ref D))) : compPost (model prog w) A (EPost prog w c env h0 E) (some (assign (.Name (Str.ofString y) py) env)) (fun _ s' => Post prog w c env FlRel h0 Q .next s') (.ref D) C (.ok .next) s := by
  show wpAny _ A (assign (.Name (Str.ofString y) py) env (.ref D)) _ _ s
  obtain ⟨oC, es, ep, e1, e2, e3⟩ := hn
  have hfree : Free c env C := by subst hC; exact ⟨⟨h₃.fresh_loc, h₃.fresh_cell⟩, h₃.fresh_base, h₃.fresh_G⟩
  have W' : WF TS n (c.more [(C, oC)]) A env := W.more fun p hp => by rw [List.mem_singleton.mp hp]; exact hfree.1
  refine wpAny_assign_Name (wpAny_mono ((at_store hk W' (r.addGuard e1 ho) (.ref D)).go i (K := fun _ σ' => Q .next σ') (E := E) q (P := fun _ s'' => ∃ m, s''.heap.Ns C m ∧ ∀ h', Heap.SameBut C s''.heap h' → Post prog w c env FlRel h0 Q .next { s'' with heap := h' }) fun _ _ σ₅ s₅ _ h₅ i₅ j₅ q₅ => ?_) (fun _ _ x => x) fun _ _ x => x.less)
  obtain ⟨og, g, g1, g2, _⟩ := h₅.guard (C, oC) (List.mem_append_left _ (.head _))
  have hn₅ : s₅.heap.Ns C m := ⟨og, es, ep, g, g2.trans e2, e3⟩
  refine ⟨m, hn₅, fun h' hs => ?_⟩
  have ho₅ : σ₅.heap C = none := by
    cases z : σ₅.heap C with
    | none => rfl
    | some lo => exact absurd rfl ((h₅.dom C lo z).2.2.1 (C, oC) (List.mem_append_left _ (.head _)))
  obtain ⟨r', im⟩ := comp_gone W h₃ hC h₅.less hn₅ ho₅ hs
  exact ⟨_, σ₅, .next, r', i₅.trans im, q₅⟩

theorem sim_Assign_LComp {tgt iter elt : Expr} {ifs : List Expr} {scope : Scope} {own : List String} {pos spos py : Pos} {y : String} {mi : PTx LIt} {bind : LV → PTx Unit} {mt : PTx Bool} {me : PTx LV}
    (hk : StoreOk env y) (hsw : swapsWith (.ListComp elt [⟨tgt, iter, ifs, 0⟩] scope pos) (some (.Name (Str.ofString y) py)) spos.line env = pure true)
    (hok : compOk scope env own = true) (hs : ∀ x, foldedSetIterable iter env x = pure x) (hi : SimIt prog w TS n A env tgt iter mi) (L : LComp prog w TS n A env scope tgt elt ifs bind mt me) :
    Sim prog w TS n A env (exec (.Assign [.Name (Str.ofString y) py] (.ListComp elt [⟨tgt, iter, ifs, 0⟩] scope pos) spos) env) FlRel (pbind (pcomp (.list []) mi own bind (fun D => pwhen mt (pemit me D))) fun v => pbind (pset y v) fun _ => pret .next) := fun c σ s W h Q E q => by
  rw [exec_Assign_Name_used _ _ _ _ hsw]
  refine wpAny_bind (wpAny_standAt (wpAny_bind ?_))
  show wpAny _ A (do let _ ← comprehension (.ListComp elt [⟨tgt, iter, ifs, 0⟩] scope pos) scope env _ (newList []) false (eval iter env) (some (assign (.Name (Str.ofString y) py) env))) _ _ s
  refine wpAny_bind (wpAny_mono (lcomp_go (P := fun _ s' => Post prog w c env FlRel s.heap Q .next s') hok hs hi L W h q fun D C σ' s' m s₃ σ₃ h₃ hC r' i' n' o' q' => used_go hk W h₃ hC r' i' n' o' q') (fun _ s' hq => wpAny_pure (wpAny_pure hq)) fun _ _ e => e)

-- dict comprehensions
end
end Mine
end
noncomputable section
open PySem PySem.W PyProof.Rows PySem.Calls PySem.SeqAt
set_option Elab.async false
set_option linter.unusedVariables false
set_option linter.unusedSimpArgs false
namespace Mine
section
variable {prog : Program} {w : World} {TS : TopS} {c : Cx} {A : Around} {env : Env} {σ : LS} {s : Shared} {n : Nat}


structure DComp (prog : Program) (w : World) (TS : TopS) (n : Nat) (A : Around) (env : Env) (scope : Scope) (tgt kx vx : Expr) (ifs : List Expr) (bind : LV → PTx Unit) (mt : PTx Bool) (mk mv : PTx LV) : Prop where
  bind : ∀ C, Sim1 prog w TS n A (compEnv scope env C) (assign tgt (compEnv scope env C)) REq bind
  tests : ∀ C, SimTests prog w TS n A (compEnv scope env C) ifs mt
  key : ∀ C, Sim prog w TS n A (compEnv scope env C) (eval kx (compEnv scope env C)) VRel mk
  val : ∀ C, Sim prog w TS n A (compEnv scope env C) (eval vx (compEnv scope env C)) VRel mv


-- two for's



/-- all that a list comprehension with two for's needs -/
structure LComp2 (prog : Program) (w : World) (TS : TopS) (n : Nat) (A : Around) (env : Env) (scope : Scope) (t1 t2 i2 elt : Expr) (ifs1 ifs2 : List Expr) (bind1 bind2 : LV → PTx Unit) (mt1 mt2 : PTx Bool) (mi2 : PTx LIt) (me : PTx LV) : Prop where
  bind1 : ∀ C, Sim1 prog w TS n A (compEnv scope env C) (assign t1 (compEnv scope env C)) REq bind1
  tests1 : ∀ C, SimTests prog w TS n A (compEnv scope env C) ifs1 mt1
  it2 : ∀ C, SimIt prog w TS n A (compEnv scope env C) t2 i2 mi2
  fold : ∀ C x, foldedSetIterable i2 (compEnv scope env C) x = pure x
  bind2 : ∀ C, Sim1 prog w TS n A (compEnv scope env C) (assign t2 (compEnv scope env C)) REq bind2
  tests2 : ∀ C, SimTests prog w TS n A (compEnv scope env C) ifs2 mt2
  elt : ∀ C, Sim prog w TS n A (compEnv scope env C) (eval elt (compEnv scope env C)) VRel me
end
end Mine
end
noncomputable section
open PySem PySem.W PyProof.Rows PySem.Calls PySem.SeqAt
set_option Elab.async false
set_option linter.unusedVariables false
set_option linter.unusedSimpArgs false
namespace Mine

def fenv (scope : Scope) (L : Addr) (q : Str) (f : Addr) (cd : Value) : Env :=
  { scope := scope, locals := L, globals := mainGlobals, cells := cellsFrom (L + 1) scope.names [], qual := q, func := some f, code := cd, frame := some L, builtins := builtinsNs }

def bindLoc : List (String × LV) → (String → Option LV) → String → Option LV
  | [], m => m
  | (n, v) :: r, m => bindLoc r fun y => if y = n then some v else m y
abbrev pdef (bnd : List LV → Option (List (String × LV))) (mb : PTx LF) : List LV → PTx LV := fun as Q _ σ =>
  ∃ bs, bnd as = some bs ∧ mb (fun fl σ' => match fl with | .ret v => Q v ⟨σ.loc, σ'.heap⟩ | .next => Q .none ⟨σ.loc, σ'.heap⟩ | _ => False) noE ⟨bindLoc bs fun _ => none, σ.heap⟩
inductive BRel (h : Heap) : List (String × LV) → List (Str × Value) → Prop
  | nil : BRel h [] []
  | cons {n : String} {a : LV} {v : Value} {bs : List (String × LV)} {vs : List (Str × Value)} : VRel h a v → BRel h bs vs → BRel h ((n, a) :: bs) ((Str.ofString n, v) :: vs)
theorem BRel.imm {h h' : Heap} (k : Imm h h') {bs vs} (r : BRel h bs vs) : BRel h' bs vs := by
  induction r with
  | nil => exact .nil
  | cons x _ ih => exact .cons (x.imm k) ih
theorem BRel.names {h : Heap} {bs vs} (r : BRel h bs vs) : ∀ y ∈ vs, ∃ b ∈ bs, y.1 = Str.ofString b.1 := by
  induction r with
  | nil => exact fun _ hy => nomatch hy
  | @cons n a _ _ _ x _ ih =>
    intro y hy
    rcases List.mem_cons.mp hy with rfl | hy
    · exact ⟨(n, a), .head _, rfl⟩
    · obtain ⟨b, h1, h2⟩ := ih y hy; exact ⟨b, .tail _ h1, h2⟩
theorem bind_local {h : Heap} {kindOf : Str → Option NameKind} {bs vs} (r : BRel h bs vs) {l : String → Option LV} {m : Str → Option Value} (hm : ∀ x : String, kindOf (Str.ofString x) = some .local → OV h (l x) (m (Str.ofString x)))
    (x : String) (hx : kindOf (Str.ofString x) = some .local) : OV h (bindLoc bs l x) (bindL kindOf vs m (Str.ofString x)) := by
  induction r generalizing l m with
  | nil => exact hm x hx
  | @cons n a v _ _ y _ ih =>
    refine ih (fun z hz => ?_)
    by_cases q : z = n
    · subst q; rw [if_pos hz]; simp; exact y
    · rw [if_neg q]
      have q' : ¬ Str.ofString z = Str.ofString n := fun e => q (ofString_inj.mp e)
      split
      · dsimp only; rw [if_neg q']; exact hm z hz
      · exact hm z hz
theorem bind_cell {h : Heap} {kindOf : Str → Option NameKind} {bs vs} (r : BRel h bs vs) {l : String → Option LV} {m : Str → Option Value} (hm : ∀ x : String, (kindOf (Str.ofString x) = some .cell) → OV h (l x) (m (Str.ofString x)))
    (x : String) (hx : kindOf (Str.ofString x) = some .cell) : OV h (bindLoc bs l x) (bindC kindOf vs m (Str.ofString x)) := by
  induction r generalizing l m with
  | nil => exact hm x hx
  | @cons n a v _ _ y _ ih =>
    refine ih (fun z hz => ?_)
    by_cases q : z = n
    · subst q; rw [if_neg (show ¬ kindOf (Str.ofString z) = some .local by rw [hz]; decide)]; simp; exact y
    · rw [if_neg q]
      have q' : ¬ Str.ofString z = Str.ofString n := fun e => q (ofString_inj.mp e)
      split
      · exact hm z hz
      · dsimp only; rw [if_neg q']; exact hm z hz

/-- a function that stands written out -/
structure FnIs (TS : TopS) (f : Addr) (o : Obj) (fd : FuncData) (sc : Scope) (bd : List Stmt) : Prop where
  at_ : TS.K.lookup f = some o
  data : o.data = .func fd
  scope : fd.scope = sc
  body : fd.body = .stmts bd
  closure : fd.closure = []
  globals : fd.globals = mainGlobals
  builtins : fd.builtins = builtinsNs
  code : codeIn TS.K fd.code fd.qualname = true
  kind : sc.kind = .function
  co : sc.isCoroutine = false
  gen : sc.isGenerator = false
  free : ∀ y ∈ sc.names, y.2 ≠ .free
  nodup : (sc.names.map (·.1)).Nodup

def SimBind (prog : Program) (w : World) (TS : TopS) (n : Nat) (A : Around) (fd : FuncData) (bnd : List LV → Option (List (String × LV))) : Prop :=
  ∀ c env σ s as xs bs, WF TS n c A env → Rel prog w c env σ s → VRels s.heap as xs → bnd as = some bs → ∀ (Q : List (Str × Value) → Shared → Prop) E,
    (∀ binds s', Rel prog w c env σ s' → (∀ b o, s.heap.get? b = some o → s'.heap.get? b = some o) → BRel s'.heap bs binds → Q binds s') → wpAny (model prog w) A.in1 (bindArgs fd ⟨xs, []⟩) Q E s

/-- a callee: what a call of it comes to -/
def SimF (prog : Program) (w : World) (TS : TopS) (n : Nat) (A : Around) (f : Value) (p : List LV → PTx LV) : Prop :=
  ∀ env, env.frame = some env.locals → ∀ c σ s as xs, WF TS n c A env → Rel prog w c env σ s → VRels s.heap as xs → ∀ Q E, p as Q E σ →
    codeAny (model prog w) A (.call f ⟨xs, []⟩) (fun r s' => match r with | .ok (.ret v) => Post prog w c env VRel s.heap Q v s' | .ok _ => False | .error e => EPost prog w c env s.heap E e s') s
theorem SimF.call {prog : Program} {w : World} {TS : TopS} {n : Nat} {A : Around} {f : Value} {p : List LV → PTx LV} (h : SimF prog w TS n A f p) {env : Env} (hf : env.frame = some env.locals) : SimL prog w TS n A env (fun vs => call f vs) VRel p :=
  fun c σ s as xs W r ras Q E q => wpAny_call (h env hf c σ s as xs W r ras Q E q)

theorem cellsFrom_keys : ∀ (names : List (Str × NameKind)) (N : Nat) (acc : List (Str × Addr)), (cellsFrom N names acc).map (·.1) = ((names.filter fun y => y.2 == .cell).map (·.1)).reverse ++ acc.map (·.1)
  | [], N, acc => by simp [cellsFrom]
  | (name, kind) :: r, N, acc => by
    unfold cellsFrom
    split
    · rename_i hk
      rw [cellsFrom_keys r]
      simp [List.filter_cons, hk]
    · rename_i hk
      rw [cellsFrom_keys r]
      simp [List.filter_cons, hk]
theorem lookup_of_mem {α : Type} : ∀ {l : List (Str × α)} {y : Str × α}, (l.map (·.1)).Nodup → y ∈ l → l.lookup y.1 = some y.2
  | [], y, _, hy => nomatch hy
  | z :: r, y, hn, hy => by
    rw [List.map_cons, List.nodup_cons] at hn
    rw [show z = (z.1, z.2) from rfl, List.lookup_cons]
    rcases List.mem_cons.mp hy with rfl | hy
    · simp
    · cases q : y.1 == z.1 with
      | true => exact absurd (List.mem_map.mpr ⟨y, hy, beq_iff_eq.mp q⟩) hn.1
      | false => exact lookup_of_mem hn.2 hy

section
variable {prog : Program} {w : World} {TS : TopS} {c : Cx} {A : Around} {env : Env} {σ : LS} {s : Shared} {n : Nat}

theorem sim_def {f : Addr} {o : Obj} {fd : FuncData} {scope : Scope} {body : List Stmt} {bnd : List LV → Option (List (String × LV))} {mb : PTx LF} (F : FnIs TS f o fd scope body) (hh : A.handled = none)
    (hbind : SimBind prog w TS (n + 1) A fd bnd) (hnames : ∀ as bs, bnd as = some bs → ∀ b ∈ bs, scope.names.lookup (Str.ofString b.1) = some .local ∨ scope.names.lookup (Str.ofString b.1) = some .cell)
    (hb : ∀ A' L q cd, A'.handled = none → Sim prog w TS n A' (fenv scope L q f cd) (execs body (fenv scope L q f cd)) FlRel mb) : SimF prog w TS (n + 1) A (.ref f) (pdef bnd mb) := by
  intro env hf c σ s as xs W h ras Q E q
  obtain ⟨bs, hbs, q⟩ := q
  obtain ⟨outer, hfr, hout⟩ := W.fr hf
  have ho : s.heap.get? f = some o := h.keep _ _ (W.top.kin _ _ F.at_)
  refine codeAny_call_function (by have := W.room; omega) ho F.data (by rw [F.scope]; exact F.co) (by rw [F.scope]; exact F.gen) F.body (codeRec_of (W.top.kin.keeps h.keep) F.code) ?_
  rw [F.scope, F.globals, F.closure, F.builtins]
  refine hbind c env σ s as xs bs W h ras hbs _ _ fun binds s₁ h₁ k₁ rb => ?_
  refine wpAny_newFunctionEnv_cells F.kind (fun x hx => ?_) fun env' he s₂ ic => ?_
  · obtain ⟨b, hb1, hb2⟩ := rb.names x hx
    rw [hb2]
    rcases hnames as bs hbs b hb1 with z | z
    · exact .inl z
    · obtain ⟨a, ha, _⟩ := cellsFrom_own scope.names (s₁.heap.objs.size + 1) [] _ (mem_of_lookup z)
      exact .inr ⟨z, by rw [ha]; rfl⟩
  · have he' : env' = fenv scope s₁.heap.objs.size (fd.qualname ++ ".<locals>.") f fd.code := he
    subst he'
    clear he
    obtain ⟨h₂, tk, rfl⟩ := ic.toInCall.same
    have kk := ic.toInCall.keep
    have im₁ := Imm.of_keeps k₁
    have im₂ := Imm.of_keeps kk
    obtain ⟨G, hG⟩ := h₁.frame
    have nf : NewFrame c env (fenv scope s₁.heap.objs.size (fd.qualname ++ ".<locals>.") f fd.code) (bindLoc bs fun _ => none) s₁.heap h₂ := by
      refine ⟨Nat.le_refl _, ⟨_, ic.toInCall.ns, fun x hx => bind_local (rb.imm im₂) (l := fun _ => none) (m := fun _ => none) (fun _ _ => trivial) x hx⟩, fun x hx => ?_, fun y hy => ?_, fun y hy y' hy' e => ?_, F.kind, rfl, rfl⟩
      · rcases hx with hx | hx
        · obtain ⟨a, ha, _⟩ := cellsFrom_own scope.names (s₁.heap.objs.size + 1) [] _ (mem_of_lookup hx)
          exact ⟨a, _, ha, ic.cell _ a ha, bind_cell (rb.imm im₂) (l := fun _ => none) (m := fun _ => none) (fun _ _ => trivial) x hx⟩
        · exact absurd rfl (F.free _ (mem_of_lookup hx))
      · have hlt := ic.above y.1 y.2 hy
        refine .inr ⟨hlt, ?_⟩
        have hl := lookup_of_mem (by rw [show (fenv scope s₁.heap.objs.size (fd.qualname ++ ".<locals>.") f fd.code).cells = cellsFrom (s₁.heap.objs.size + 1) scope.names [] from rfl, cellsFrom_keys]; simp only [List.map_nil, List.append_nil]; exact List.pairwise_reverse.mpr (List.Pairwise.imp (fun h => Ne.symm h) ((List.filter_sublist.map _).nodup F.nodup))) hy
        exact ⟨_, ic.cell _ _ hl⟩
      · exact name_of_addr ic.apart (c := y.2) hy (e ▸ hy')
    have W' : WF TS n (c.more G) (A.deeper (fenv scope s₁.heap.objs.size (fd.qualname ++ ".<locals>.") f fd.code)) (fenv scope s₁.heap.objs.size (fd.qualname ++ ".<locals>.") f fd.code) := by
      refine W.enter h₁ hG nf (by show A.depth + 1 + n < _; have := W.room; omega) (by show A.units + 3 + 64 * n < _; have := W.units; omega) (fun L hL => by cases hL; exact Nat.le_refl _) rfl fun _ => ⟨env :: outer, Around.frames_deeper hfr, fun e he => ?_⟩
      have hbn : ∀ a, c.base.objs.size ≤ a → c.base.get? a = none := fun a ha => by
        cases z : c.base.get? a with
        | none => rfl
        | some _ => exact absurd (Heap.lt_size z) (Nat.not_lt.mpr ha)
      rcases List.mem_cons.mp he with rfl | he
      · obtain ⟨m, ⟨oL, es, ep, e1, e2, _⟩, _⟩ := h₁.ns
        obtain ⟨oL', ho'⟩ := hG.loc
        have h9 := (hG.all _ ho').1
        dsimp only at h9
        rw [e1] at h9; cases h9
        exact ⟨by rw [W.sep.kind]; decide, _, oL, hf, List.mem_append_left _ ho', hbn _ W.sep.above, es, ep, e2⟩
      · obtain ⟨k1, L, o, k2, k3, k4⟩ := hout e he
        exact ⟨k1, L, o, k2, List.mem_append_right _ k3, k4⟩
    refine ⟨W.top.nolimit.keeps (fun b o e => kk b o (h₁.keep b o e)), codeAny_func ?_⟩
    have h₃ := h₁.enter hG (tk := tk) kk nf
    refine wpAny_mono ((hb (A.deeper (fenv scope s₁.heap.objs.size (fd.qualname ++ ".<locals>.") f fd.code)) _ _ _ hh _ _ _ W' h₃).go (Imm.refl _) q (P := fun fl s' => Post prog w c env VRel s.heap Q (match fl with | .ret v => v | _ => .none) s') fun fl v σ₄ s₄ rf h₄ i₄ j₄ q₄ => ?_) (fun _ _ x => x) fun _ _ x => x.no.elim
    have i₅ : Imm s₁.heap s₄.heap := im₂.trans i₄
    have h₅ := h₁.leave hG h₄ i₅
    cases rf with
    | next => exact ⟨_, _, .none, h₅, im₁.trans i₅, q₄⟩
    | brk => exact q₄.elim
    | cont => exact q₄.elim
    | ret rv => exact ⟨_, _, rv, h₅, im₁.trans i₅, q₄⟩
end
end Mine
end
noncomputable section
open PySem PySem.W PyProof.Rows PySem.Calls PySem.SeqAt
set_option Elab.async false
set_option linter.unusedVariables false
set_option linter.unusedSimpArgs false
namespace Mine

def fput (fs : List (String × LV)) (x : String) (v : LV) : List (String × LV) := match fs with
  | [] => [(x, v)]
  | (y, u) :: r => if y = x then (y, v) :: r else (y, u) :: fput r x v
def sput (fs : List (Option LV)) (i : Nat) (v : LV) : List (Option LV) := (fs ++ List.replicate (i + 1 - fs.length) none).set i (some v)
def plain : LV → Bool
  | .raw _ => false
  | _ => true

/-- attributes in a thing's dict -/
def pgetD (C : Nat) (x : String) : LV → PTx LV
  | .ref a => fun Q _ σ => ∃ d fs es v, σ.heap a = some (.inst C d fs) ∧ σ.heap d = some (.attrs es) ∧ es.lookup x = some v ∧ plain v = true ∧ Q v σ
  | _ => pfail
def psetD (C : Nat) (x : String) : LV → LV → PTx Unit
  | .ref a, v => fun Q _ σ => ∃ d fs es, σ.heap a = some (.inst C d fs) ∧ σ.heap d = some (.attrs es) ∧ es.length < 900 ∧ Q () (σ.put d (.attrs (fput es x v)))
  | _, _ => pfail
/-- attributes in a thing's slots -/
def pgetS (C : Nat) (i : Nat) : LV → PTx LV
  | .ref a => fun Q _ σ => ∃ d fs es v, σ.heap a = some (.inst C d fs) ∧ σ.heap d = some (.attrs es) ∧ fs[i]? = some (some v) ∧ plain v = true ∧ Q v σ
  | _ => pfail
def psetS (C : Nat) (i : Nat) : LV → LV → PTx Unit
  | .ref a, v => fun Q _ σ => ∃ d fs es, σ.heap a = some (.inst C d fs) ∧ σ.heap d = some (.attrs es) ∧ Q () (σ.put a (.inst C d (sput fs i v)))
  | _, _ => pfail

theorem isStr_ofString (x y : String) (t : Tok) : (Value.str (Str.ofString y) t).isStr (Str.ofString x) = decide (y = x) := by
  unfold Value.isStr
  by_cases h : y = x
  · subst h; simp
  · have : ¬ Str.ofString y = Str.ofString x := fun e => h (ofString_inj.mp e)
    simp [h, this]
theorem FRel.look {P : Params} {h : Heap} (x : String) {fs es} (r : FRel P h fs es) : (match fs.lookup x with
    | some a => ∃ v, getL (Str.ofString x) es = some (some v) ∧ VRel h a v
    | none => getL (Str.ofString x) es = some none) := by
  induction r with
  | nil => rfl
  | @cons k t a v fs es y r ih =>
    rw [List.lookup_cons]
    by_cases hk : x = k
    · subst hk
      simp only [beq_self_eq_true]
      refine ⟨v, ?_, y⟩
      unfold getL
      rw [List.find?_cons, show (Value.str (Str.ofString x) t).isStr (Str.ofString x) = true by rw [isStr_ofString]; simp]
    · have hb : (x == k) = false := beq_eq_false_iff_ne.mpr hk
      rw [hb]
      have e9 : getL (Str.ofString x) (⟨PyData.keyHash P (Str.ofString k), .str (Str.ofString k) t, v⟩ :: es) = getL (Str.ofString x) es := by
        unfold getL
        rw [List.find?_cons, show (Value.str (Str.ofString k) t).isStr (Str.ofString x) = false by rw [isStr_ofString]; simp [Ne.symm hk], List.any_cons]
        rfl
      rw [e9]; exact ih
theorem FRel.put {P : Params} {h : Heap} {x : String} {tk : Tok} {a : LV} {v : Value} (hv : VRel h a v) {fs es} (r : FRel P h fs es) : FRel P h (fput fs x a) (putL (Str.ofString x) (PyData.keyHash P (Str.ofString x)) (.str (Str.ofString x) tk) v es) := by
  induction r with
  | nil => exact .cons hv .nil
  | @cons k t _ _ _ _ y r ih =>
    unfold fput putL
    rw [show (Value.str (Str.ofString k) t).isStr (Str.ofString x) = decide (k = x) from isStr_ofString x k t]
    by_cases hk : k = x
    · subst hk; simp only [decide_true, if_true]; exact .cons hv r
    · simp only [hk, decide_false, if_false, Bool.false_eq_true]; exact .cons y ih
theorem FRel.length {P : Params} {h : Heap} {fs es} (r : FRel P h fs es) : fs.length = es.length := by
  induction r with
  | nil => rfl
  | cons _ _ ih => exact congrArg (· + 1) ih
theorem putL_length (x : Str) (hs : Int) (k v : Value) : ∀ es : List DictEntry, (putL x hs k v es).length ≤ es.length + 1
  | [] => by simp [putL]
  | e :: r => by
    unfold putL
    split
    · simp
    · simp only [List.length_cons]; have := putL_length x hs k v r; omega
theorem OVs.get {h : Heap} {as : List (Option LV)} {vs : List (Option Value)} (r : OVs h as vs) {i : Nat} {a : LV} (e : as[i]? = some (some a)) : ∃ v, vs[i]? = some (some v) ∧ VRel h a v := by
  induction r generalizing i with
  | nil => cases e
  | cons x _ ih =>
    cases i with
    | zero => cases e; obtain ⟨y, rfl, hy⟩ := x.some_left; exact ⟨y, rfl, hy⟩
    | succ i => exact ih e
theorem OVs.length {h : Heap} {as vs} (r : OVs h as vs) : as.length = vs.length := by
  induction r with
  | nil => rfl
  | cons _ _ ih => exact congrArg (· + 1) ih
theorem OVs.append {h : Heap} {as bs vs ws} (r : OVs h as vs) (q : OVs h bs ws) : OVs h (as ++ bs) (vs ++ ws) := by
  induction r with
  | nil => exact q
  | cons x _ ih => exact .cons x ih
theorem OVs.none (h : Heap) : ∀ k, OVs h (List.replicate k none) (List.replicate k none)
  | 0 => .nil
  | k + 1 => .cons trivial (OVs.none h k)
theorem OVs.set {h : Heap} {as vs} (i : Nat) {a : Option LV} {v : Option Value} (r : OVs h as vs) (y : OV h a v) : OVs h (as.set i a) (vs.set i v) := by
  induction r generalizing i with
  | nil => exact .nil
  | cons x r ih =>
    cases i with
    | zero => exact .cons y r
    | succ i => exact .cons x (ih i)
theorem plain_handed {h : Heap} {a : LV} {v : Value} (p : plain a = true) (r : VRel h a v) : handedIn v = true := by
  cases r <;> first | rfl | cases p

/-- all objects but two -/
def others (h : Heap) (a L : Addr) : List (Addr × Obj) := (List.range h.objs.size).filterMap fun b => if b = a ∨ b = L then none else (h.get? b).map fun o => (b, o)
theorem others_mem {h : Heap} {a L : Addr} {p : Addr × Obj} : p ∈ others h a L ↔ (h.get? p.1 = some p.2 ∧ p.1 ≠ a ∧ p.1 ≠ L) := by
  unfold others
  rw [List.mem_filterMap]
  constructor
  · rintro ⟨b, hb, e⟩
    split at e
    · cases e
    · rename_i hn
      obtain ⟨o, ho, rfl⟩ := Option.map_eq_some_iff.mp e
      exact ⟨ho, fun q => hn (.inl q), fun q => hn (.inr q)⟩
  · rintro ⟨h1, h2, h3⟩
    refine ⟨p.1, List.mem_range.mpr (Heap.lt_size h1), ?_⟩
    rw [if_neg (by rintro (q | q); exact h2 q; exact h3 q), h1]
    rfl

section
variable {prog : Program} {w : World} {TS : TopS} {c : Cx} {A : Around} {env : Env} {σ : LS} {s : Shared} {n : Nat}

theorem Rel.inst_at (h : Rel prog w c env σ s) {a C d : Nat} {fs : List (Option LV)} (e : σ.heap a = some (.inst C d fs)) : ∃ sl, s.heap.get? a = some { cls := .ref C, dict := some d, data := .plain, slots := sl } ∧ OVs s.heap fs sl.toList := h.obj a _ e
theorem Rel.attrs_at (h : Rel prog w c env σ s) {d : Nat} {es : List (String × LV)} (e : σ.heap d = some (.attrs es)) : ∃ es' n, s.heap.get? d = some (dictOf es' n) ∧ FRel w.params s.heap es es' := h.obj d _ e
theorem Rel.inst (h : Rel prog w c env σ s) {a C d : Nat} {fs : List (Option LV)} {es : List (String × LV)} (e : σ.heap a = some (.inst C d fs)) (e' : σ.heap d = some (.attrs es)) :
    ∃ sl es' n, InstAt s.heap a { cls := .ref C, dict := some d, data := .plain, slots := sl } C (some (dictOf es' n)) ∧ OVs s.heap fs sl.toList ∧ FRel w.params s.heap es es' := by
  obtain ⟨sl, h1, h2⟩ := h.inst_at e
  obtain ⟨es', n, h3, h4⟩ := h.attrs_at e'
  exact ⟨sl, es', n, ⟨h1, rfl, rfl, h3⟩, h2, h4⟩

/-- a lite object turned, the frame's names standing on -/
theorem Rel.updateL (W : WF TS n c A env) (h : Rel prog w c env σ s) {h' : Heap} {tk : Nat} {a : Addr} {o o' : LO} (e : σ.heap a = some o) (k : ∀ b ob, b ≠ a → b ≠ env.locals → s.heap.get? b = some ob → h'.get? b = some ob) (hn : ∀ m, s.heap.Ns env.locals m → h'.Ns env.locals m) (r : Imm s.heap h' → ORel prog w h' a o') :
    Rel prog w c env (σ.put a o') { s with heap := h', toks := tk } ∧ Imm s.heap h' := by
  obtain ⟨d1, d2, d3, d4⟩ := h.dom a o e
  obtain ⟨ob, e1, e2⟩ := (h.obj a o e).notImm
  obtain ⟨m, n1, n2⟩ := h.ns
  have im : Imm s.heap h' := fun b o9 e9 i9 => by
    refine k b o9 (fun z => ?_) (fun z => ?_) e9
    · rw [z, e1] at e9; cases e9; rw [e2] at i9; cases i9
    · rw [z] at e9; rw [notImm_ns n1 o9 e9] at i9; cases i9
  have r := r im
  have hbl : ∀ b o9, c.base.get? b = some o9 → b ≠ env.locals := fun b o9 e9 => Nat.ne_of_lt (Nat.lt_of_lt_of_le (Heap.lt_size e9) W.sep.above)
  refine ⟨⟨fun b o e => k b o (fun q => by rw [q, d1] at e; cases e) (hbl b o e) (h.keep b o e), fun p hp => (h.guard p hp).imp fun _ e => ⟨k _ _ (d3 p hp) (W.sep.gL p hp) e.1, e.2⟩, ⟨m, hn m n1, fun x q => (n2 x q).imm im⟩,
    fun x q => ?_, fun y hy => (h.cin y hy).imp fun v ⟨oc, c1, c2⟩ => ⟨oc, k _ oc (d4 y hy) (W.sep.cellL y hy) c1, c2⟩, fun b o₂ e₂ => ?_, fun b o₂ e₂ => ?_, h.gens, h.os, h.drawn⟩, im⟩
  · obtain ⟨b, v, e1, ⟨oc, c1, c2⟩, e3⟩ := h.cell x q
    exact ⟨b, v, e1, ⟨oc, k b oc (d4 (_, b) (mem_of_lookup e1)) (W.sep.cellL _ (mem_of_lookup e1)) c1, c2⟩, e3.imm im⟩
  · simp only [LS.put] at e₂
    by_cases q : b = a
    · subst q; simp at e₂; subst e₂; exact r
    · simp [q] at e₂; exact (h.obj b o₂ e₂).move im fun ob eb => k _ _ q (h.dom b o₂ e₂).2.1 eb
  · simp only [LS.put] at e₂
    by_cases q : b = a
    · subst q; exact ⟨d1, d2, d3, d4⟩
    · simp [q] at e₂; exact h.dom b o₂ e₂

theorem sim_getD {C : Nat} {x : String} {expr : Bool} (hg : plainGet TS.K C (Str.ofString x) = true) (hh : hasDictIn TS.K C = true) (ha : findIn TS.K (.ref C) (Str.ofString x) = some none) :
    Sim1 prog w TS n A env (fun v => getAttr v (Str.ofString x) expr) VRel (pgetD C x) := fun c σ s a y W h ra Q E q => by
  cases a with
  | ref a =>
    obtain ⟨d, fs, es, v, e1, e2, e3, e4, q⟩ := q
    cases ra.ref_inv
    obtain ⟨sl, es', n', I, r1, r2⟩ := h.inst e1 e2
    have := r2.look x
    rw [e3] at this
    obtain ⟨u, hu, hv⟩ := this
    exact get_value (W.top.kin.keeps h.keep) I (plainGet_of hg).1 (findObj_own hh ha rfl hu) (plain_handed e4 hv) ⟨v, σ, hv, h.toks _, Imm.refl _, q⟩
  | _ => exact q.elim
theorem sim_getS {C p i : Nat} {x : String} {expr : Bool} (hg : plainGet TS.K C (Str.ofString x) = true) (hc : isClsIn TS.K C = true) (ha : findIn TS.K (.ref C) (Str.ofString x) = some (some (.ref p))) (hn : specialIn TS.K (.ref p) "__get__" = some (some (.builtin "member_descriptor.__get__"))) (ht : takesIn TS.K (.ref p) = some true) (hp : slotIn TS.K p C = some i) :
    Sim1 prog w TS n A env (fun v => getAttr v (Str.ofString x) expr) VRel (pgetS C i) := fun c σ s a y W h ra Q E q => by
  cases a with
  | ref a =>
    obtain ⟨d, fs, es, v, e1, e2, e3, e4, q⟩ := q
    cases ra.ref_inv
    obtain ⟨sl, es', n', I, r1, r2⟩ := h.inst e1 e2
    obtain ⟨u, hu, hv⟩ := r1.get e3
    have X := W.top.kin.keeps h.keep
    refine get_bind X I (plainGet_of hg).1 (findObj_data hc ha hn ht) (plainGet_of hg).2 (wpAny_call (slot_get (s := { s with toks := s.toks + 1 }) X I hp (v := u) (by rw [← Array.getElem?_toList, hu]; rfl) (handed_on (plain_handed e4 hv) ⟨v, σ, hv, h.toks _, Imm.refl _, q⟩)))
  | _ => exact q.elim
theorem sim_setD {C : Nat} {x : String} (hs : findIn TS.K (.ref C) "__setattr__" = some (some (.builtin "object.__setattr__"))) (hp : plainOver TS.K C = true) (ht : takerIn TS.K C (Str.ofString x) = some none) (hh : hasDictIn TS.K C = true) :
    Sim2 prog w TS n A env (fun o v => setAttr o (Str.ofString x) v) REq (psetD C x) := fun c σ s a y b z W h ra rb Q E q => by
  cases a with
  | ref a =>
    obtain ⟨d, fs, es, e1, e2, hz, q⟩ := q
    cases ra.ref_inv
    obtain ⟨sl, es', n', I, r1, r2⟩ := h.inst e1 e2
    obtain ⟨m, n1, n2⟩ := h.ns
    have X := W.top.kin.keeps h.keep
    have hd := (h.dom d _ e2).2.1
    have hlen := r2.length
    have N : News {} env.locals s.heap (others s.heap d env.locals ++ (d, dictOf es' n') :: []) := fun p hp => by
      rcases List.mem_append.mp hp with hp | hp
      · obtain ⟨p1, p2, p3⟩ := others_mem.mp hp; exact ⟨p1, p3, rfl⟩
      · rw [List.mem_singleton.mp hp]; exact ⟨I.dict, hd, rfl⟩
    refine set_plain X I hs (osa_dict (h₀ := {}) (L := env.locals) (m := m) (s := { s with toks := s.toks + 1 }) (es := putL (Str.ofString x) (PyData.keyHash w.params (Str.ofString x)) (.str (Str.ofString x) (s.toks + 1)) z es') (n := putN (Str.ofString x) es' n') ⟨n1, fun _ _ e => (nomatch e), Nat.zero_le _⟩ N X I rfl hp ht hh ?_ (fun p hp => (others_mem.mp hp).2.1) (fun p hp => (nomatch hp)) (putName_dict ..) rfl ?_ fun h' F' N' => ?_)
    · rw [lookIn_dict]
      have := r2.look x
      split at this
      · obtain ⟨u, hu, _⟩ := this; rw [hu]; rfl
      · rw [this]; rfl
    · have := putL_length (Str.ofString x) (PyData.keyHash w.params (Str.ofString x)) (.str (Str.ofString x) (s.toks + 1)) z es'; omega
    · obtain ⟨r, im⟩ := Rel.updateL W h (h' := h') (tk := s.toks + 1 + 1) (o' := .attrs (fput es x b)) e2 (fun p ob h1 h2 h3 => (N' (p, ob) (List.mem_append_left _ (others_mem.mpr ⟨h3, h1, h2⟩))).1) (fun m' hm' => by rw [hm'.eq_nsMap, ← n1.eq_nsMap]; exact F'.ns) (fun im => ⟨_, _, (N' (d, _) (List.mem_append_right _ (.head _))).1, (r2.imm im).put (rb.imm im)⟩)
      exact ⟨(), _, rfl, r, im, q⟩
  | _ => exact q.elim
theorem sim_setS {C p i : Nat} {x : String} (hs : findIn TS.K (.ref C) "__setattr__" = some (some (.builtin "object.__setattr__"))) (hp : plainOver TS.K C = true) (ht : takerIn TS.K C (Str.ofString x) = some (some (.ref p))) (hT : typeIn TS.K (.ref p) = some (.type "member_descriptor")) (hi : slotIn TS.K p C = some i) (hz : i < 1000) :
    Sim2 prog w TS n A env (fun o v => setAttr o (Str.ofString x) v) REq (psetS C i) := fun c σ s a y b z W h ra rb Q E q => by
  cases a with
  | ref a =>
    obtain ⟨d, fs, es, e1, e2, q⟩ := q
    cases ra.ref_inv
    obtain ⟨sl, es', n', I, r1, r2⟩ := h.inst e1 e2
    obtain ⟨m, n1, n2⟩ := h.ns
    have X := W.top.kin.keeps h.keep
    have ha := (h.dom a _ e1).2.1
    have N : News {} env.locals s.heap (others s.heap a env.locals ++ (a, { cls := .ref C, dict := some d, data := .plain, slots := sl }) :: []) := fun p hp => by
      rcases List.mem_append.mp hp with hp | hp
      · obtain ⟨p1, p2, p3⟩ := others_mem.mp hp; exact ⟨p1, p3, rfl⟩
      · rw [List.mem_singleton.mp hp]; exact ⟨I.at_, ha, rfl⟩
    refine set_plain X I hs (osa_descr (s := { s with toks := s.toks + 1 }) KF.slot_mset X I hp ht hT (slot_set (h₀ := {}) (L := env.locals) (m := m) (s := { s with toks := s.toks + 1 }) ⟨n1, fun _ _ e => (nomatch e), Nat.zero_le _⟩ N X I hi hz (fun p hp => (others_mem.mp hp).2.1) (fun p hp => (nomatch hp)) rfl rfl fun h' F' N' => ?_))
    have hov : Imm s.heap h' → OVs h' (sput fs i b) ((sl ++ Array.replicate (i + 1 - sl.size) none).setIfInBounds i (some z)).toList := fun im => by
      have hl := r1.length
      have : ((sl ++ Array.replicate (i + 1 - sl.size) none).setIfInBounds i (some z)).toList = (sl.toList ++ List.replicate (i + 1 - sl.toList.length) none).set i (some z) := by simp
      rw [this]
      unfold sput
      rw [hl]
      exact ((r1.imm im).append (OVs.none h' _)).set i (rb.imm im)
    obtain ⟨r, im⟩ := Rel.updateL W h (h' := h') (tk := s.toks + 1) (o' := .inst C d (sput fs i b)) e1 (fun p ob h1 h2 h3 => (N' (p, ob) (List.mem_append_left _ (others_mem.mpr ⟨h3, h1, h2⟩))).1) (fun m' hm' => by rw [hm'.eq_nsMap, ← n1.eq_nsMap]; exact F'.ns) (fun im => ⟨_, (N' (a, _) (List.mem_append_right _ (.head _))).1, hov im⟩)
    exact ⟨(), _, rfl, r, im, q⟩
  | _ => exact q.elim
end
end Mine
end
noncomputable section
open PySem PySem.W PyProof.Rows PySem.Calls PySem.SeqAt
set_option Elab.async false
set_option linter.unusedVariables false
set_option linter.unusedSimpArgs false
namespace Mine
abbrev pmake (C : Nat) (p : List LV → PTx LV) : List LV → PTx LV := fun as Q E σ =>
  ∀ d a, d ≠ a → σ.heap d = none → σ.heap a = none → p (.ref a :: as) (fun v σ' => v = .none ∧ Q (.ref a) σ') E ((σ.put d (.attrs [])).put a (.inst C d []))
/-- a thing of C without an own attribute of that name -/
def pisinst (C : Nat) (x : String) : LV → PTx Unit
  | .ref a => fun Q _ σ => ∃ d fs es, σ.heap a = some (.inst C d fs) ∧ σ.heap d = some (.attrs es) ∧ es.lookup x = none ∧ Q () σ
  | _ => pfail
def pstar : LV → PTx (List LV)
  | .tup vs => fun Q _ σ => vs.length ≤ cap ∧ Q vs σ
  | .ref a => fun Q _ σ => ∃ xs, σ.heap a = some (.list xs) ∧ Q xs σ
  | _ => pfail
section
variable {prog : Program} {w : World} {TS : TopS} {c : Cx} {A : Around} {env : Env} {σ : LS} {s : Shared} {n : Nat}

theorem sim_Attr {o : Expr} {x : String} {pos : Pos} {m : PTx LV} {p : LV → PTx LV} (ho : Sim prog w TS n A env (eval o env) VRel m) (hg : Sim1 prog w TS n A env (fun v => getAttr v (Str.ofString x) true) VRel p)
    (he : eval (.Attribute o (Str.ofString x) pos) env = (do
      let ov ← eval o env
      standAt pos.atName
      let r ← holding [ov] (getAttr ov (Str.ofString x) true)
      letTemporaryGo o ov r
      pure r)) : Sim prog w TS n A env (eval (.Attribute o (Str.ofString x) pos) env) VRel (pbind m p) := fun c σ s W h Q E q =>
  Attribute_any_ ((ho c σ s W h).go (Imm.refl _) q fun a v σ₁ s₁ ra h₁ i₁ j₁ q₁ => (hg c σ₁ s₁ a v W h₁ ra).fin i₁ q₁) he
theorem sim_AssignAttr {o e : Expr} {x : String} {pos pos' : Pos} {m mo : PTx LV} {p : LV → LV → PTx Unit} (h1 : Sim prog w TS n A env (eval e env) VRel m) (ho : Sim prog w TS n A env (eval o env) VRel mo) (hp : Sim2 prog w TS n A env (fun o v => setAttr o (Str.ofString x) v) REq p)
    (hs : swapsWith e (some (.Attribute o (Str.ofString x) pos')) pos.line env = pure false) :
    Sim prog w TS n A env (exec (.Assign [.Attribute o (Str.ofString x) pos'] e pos) env) FlRel (pbind m fun v => pbind mo fun a => pbind (p a v) fun _ => pret .next) := fun c σ s W h Q E q =>
  plainObj_wpAny_Assign_Attribute ((h1 c σ s W h).go (Imm.refl _) q fun b y σ₁ s₁ rb h₁ i₁ j₁ q₁ => (ho c σ₁ s₁ W h₁).go i₁ q₁ fun a v σ₂ s₂ ra h₂ i₂ j₂ q₂ => (hp c σ₂ s₂ a v b y W h₂ ra (rb.imm j₂)).go i₂ q₂ fun _ _ σ₃ s₃ _ h₃ i₃ j₃ q₃ => ⟨_, σ₃, .next, h₃, i₃, q₃⟩) hs
theorem sim_AugAttr {o e : Expr} {x : String} {op : Operator} {pos pos' : Pos} {m mo : PTx LV} {g : LV → PTx LV} {pp : LV → LV → PTx LV} {p : LV → LV → PTx Unit} (ho : Sim prog w TS n A env (eval o env) VRel mo) (hg : Sim1 prog w TS n A env (fun v => getAttr v (Str.ofString x) true) VRel g)
    (h1 : Sim prog w TS n A env (eval e env) VRel m) (hop : Sim2 prog w TS n A env (inplaceOp op) VRel pp) (hp : Sim2 prog w TS n A env (fun o v => setAttr o (Str.ofString x) v) REq p) :
    Sim prog w TS n A env (exec (.AugAssign (.Attribute o (Str.ofString x) pos') op e pos) env) FlRel (pbind mo fun a => pbind (g a) fun u => pbind m fun v => pbind (pp u v) fun z => pbind (p a z) fun _ => pret .next) := fun c σ s W h Q E q =>
  wpAny_AugAssign_AttributeAny ((ho c σ s W h).go (Imm.refl _) q fun a v σ₁ s₁ ra h₁ i₁ j₁ q₁ => (hg c σ₁ s₁ a v W h₁ ra).go i₁ q₁ fun b y σ₂ s₂ rb h₂ i₂ j₂ q₂ => (h1 c σ₂ s₂ W h₂).go i₂ q₂ fun d u σ₃ s₃ rd h₃ i₃ j₃ q₃ =>
    (hop c σ₃ s₃ b y d u W h₃ (rb.imm j₃) rd).go i₃ q₃ fun z t σ₄ s₄ rz h₄ i₄ j₄ q₄ => (hp c σ₄ s₄ a v z t W h₄ (((ra.imm j₂).imm j₃).imm j₄) rz).go i₄ q₄ fun _ _ σ₅ s₅ _ h₅ i₅ j₅ q₅ => ⟨_, σ₅, .next, h₅, i₅, q₅⟩)

-- calls of defs and classes by name
theorem sim_CallF {f : String} {v : Value} {es : List Expr} {np pos : Pos} {m : PTx (List LV)} {p : List LV → PTx LV} (hv : TS.gl f = some v) (hkp : keepIn TS.K v = true) (hk : env.kindOf (Str.ofString f) = some .globalImplicit) (hd : (Str.ofString f == ("__debug__" : Str)) = false)
    (hf : env.frame = some env.locals) (hns : (argT pos es env).any (·.1) = false) (ha : Sim prog w TS n A env (spliced (argT pos es env)) VRels m) (hp : SimF prog w TS n A v p) :
    Sim prog w TS n A env (eval (.Call (.Name (Str.ofString f) np) es [] pos) env) VRel (pbind m p) := fun c σ s W h Q E q => by
  refine wpAny_Call_ofName (at_glob hv hk hd W h (callWith_of (P := TS.K.In) (by rw [hns]; rfl) (keeps_K hkp) (evalArgs_go hns ?_)))
  exact (ha c σ s W h).go (Imm.refl _) q fun as vs σ₁ s₁ ra h₁ i₁ j₁ q₁ => ⟨W.top.kin.keeps h₁.keep, (hp.call hf c σ₁ s₁ as vs W h₁ ra).fin i₁ q₁⟩

-- methods of things
theorem meth_go {C f : Nat} {x : String} {o : Expr} {apos pos : Pos} {args : List Expr} {pl : Sem Bool} {mo : PTx LV} {K : LV → LS → Prop} {E : LX → LS → Prop} {P : Value → Shared → Prop}
    (hg : plainGet TS.K C (Str.ofString x) = true) (hfn : findIn TS.K (.ref C) (Str.ofString x) = some (some (.ref f))) (ht : isFn TS.K (.ref f) = true)
    (he : eval (.Call (.Attribute o (Str.ofString x) apos) args [] pos) env = (do
      let ov ← eval o env
      standAt apos.atName
      let (f, first) ← holding [ov] (getMethod ov (Str.ofString x) pl)
      callWith pos f first (backTo pos (starEach args env)) (backToKw pos (keywordEach [] env))))
    (ho : Sim prog w TS n A env (eval o env) VRel mo) (W : WF TS n c A env) (h : Rel prog w c env σ s) (q : (pbind mo fun a => pbind (pisinst C x a) fun _ => fun Q E σ => Q a σ) K E σ)
    (g : ∀ a σ₁ s₁, Rel prog w c env σ₁ s₁ → Imm s.heap s₁.heap → K (.ref a) σ₁ → wpAny (model prog w) A (callWith pos (.ref f) [.ref a] (argT pos args env) []) P (EPost prog w c env s.heap E) s₁) :
    wpAny (model prog w) A (eval (.Call (.Attribute o (Str.ofString x) apos) args [] pos) env) P (EPost prog w c env s.heap E) s := by
  refine methodCall_KW ((ho c σ s W h).go (Imm.refl _) q fun a v σ₁ s₁ ra h₁ i₁ j₁ q₁ => ?_) he
  cases a with
  | ref a =>
    obtain ⟨d, fs, es, e1, e2, e3, q₁⟩ := q₁
    cases ra.ref_inv
    obtain ⟨sl, es', n', I, r1, r2⟩ := h₁.inst e1 e2
    refine method_fn (W.top.kin.keeps h₁.keep) I (plainGet_of hg).1 (plainGet_of hg).2 hfn (beq_iff_eq.mp ht) ?_ (g a σ₁ s₁ h₁ i₁ q₁)
    have := r2.look x
    rw [e3] at this
    show (lookIn (Str.ofString x) (dictOf es' n')).map _ = _
    rw [lookIn_dict, this]; rfl
  | _ => exact q₁.elim
theorem sim_CallMeth {C f : Nat} {x : String} {o : Expr} {apos pos : Pos} {args : List Expr} {pl : Sem Bool} {mo : PTx LV} {m : PTx (List LV)} {p : List LV → PTx LV}
    (hg : plainGet TS.K C (Str.ofString x) = true) (hfn : findIn TS.K (.ref C) (Str.ofString x) = some (some (.ref f))) (ht : isFn TS.K (.ref f) = true) (hkp : keepIn TS.K (.ref f) = true)
    (he : eval (.Call (.Attribute o (Str.ofString x) apos) args [] pos) env = (do
      let ov ← eval o env
      standAt apos.atName
      let (f, first) ← holding [ov] (getMethod ov (Str.ofString x) pl)
      callWith pos f first (backTo pos (starEach args env)) (backToKw pos (keywordEach [] env))))
    (hf : env.frame = some env.locals) (hns : (argT pos args env).any (·.1) = false) (ho : Sim prog w TS n A env (eval o env) VRel mo) (ha : Sim prog w TS n A env (spliced (argT pos args env)) VRels m) (hp : SimF prog w TS n A (.ref f) p) :
    Sim prog w TS n A env (eval (.Call (.Attribute o (Str.ofString x) apos) args [] pos) env) VRel (pbind mo fun a => pbind (pisinst C x a) fun _ => pbind m fun as => p (a :: as)) := fun c σ s W h Q E q => by
  refine meth_go hg hfn ht he ho W h (K := fun a σ => m (fun as σ' => p (a :: as) Q E σ') E σ) q fun a σ₁ s₁ h₁ i₁ q₁ => ?_
  refine callWith_of (P := TS.K.In) (by rw [hns]; rfl) (keeps_K hkp) (evalArgs_go hns ?_)
  exact (ha c σ₁ s₁ W h₁).go i₁ q₁ fun as vs σ₂ s₂ ra h₂ i₂ j₂ q₂ => ⟨W.top.kin.keeps h₂.keep, (hp.call hf c σ₂ s₂ (.ref a :: as) (.ref a :: vs) W h₂ (.cons (.ref a) ra)).fin i₂ q₂⟩

-- stars
theorem at_star {a : LV} {x : Value} {K : List LV → LS → Prop} {E : LX → LS → Prop} {E' : Value → Shared → Prop} {P : List Value → Shared → Prop} (h : Rel prog w c env σ s) (ra : VRel s.heap a x) (q : pstar a K E σ)
    (g : ∀ as vs s', VRels s'.heap as vs → Rel prog w c env σ s' → Imm s.heap s'.heap → K as σ → P vs s') : StarOf (model prog w) A E' x P s := by
  have := cap_le
  cases a with
  | tup vs =>
    obtain ⟨hz, q⟩ := q
    obtain ⟨t, items, n2, rfl, e2, r2⟩ := ra.tup_inv
    have hl := r2.length
    unfold StarOf notIterableAtAll
    refine wpAny_bind (wpAny_specialOf ⟨_, e2, rfl⟩ PySem.F.slot_tuple_iter.lookup (wpAny_pure ⟨rfl, ?_⟩))
    refine wpAny_collect_seq t (.inr rfl) e2 rfl rfl (fun h' hk => ?_) (by simp; omega)
    exact g vs items _ (r2.imm (Imm.of_keeps hk)) (h.keeps (tk := s.toks) hk) (Imm.of_keeps hk) q
  | ref a =>
    obtain ⟨xs, e, q⟩ := q
    cases ra.ref_inv
    obtain ⟨hz, it, n1, l1, r1⟩ := h.list_at e
    have hl := r1.length
    unfold StarOf notIterableAtAll
    refine wpAny_bind (wpAny_specialOf ⟨_, l1, rfl⟩ PySem.F.slot_list_iter.lookup (wpAny_pure ⟨rfl, ?_⟩))
    refine wpAny_collect_seq a (.inl rfl) l1 rfl rfl (fun h' hk => ?_) (by simp at hl; omega)
    exact g xs it.toList _ (r1.imm (Imm.of_keeps hk)) (h.keeps (tk := s.toks) hk) (Imm.of_keeps hk) q
  | _ => exact q.elim
/-- an argument with a star, the last one -/
theorem sim_arg_star {pos p : Pos} {e : Expr} {m : PTx LV} (h1 : Sim prog w TS n A env (eval e env) VRel m) (he : starEach [.Starred e p] env = [(true, eval e env)]) :
    Sim prog w TS n A env (spliced (argT pos [.Starred e p] env)) VRels (pbind m pstar) := fun c σ s W h Q E q => by
  show wpAny _ A (spliced (backTo pos (starEach [.Starred e p] env))) _ _ s
  rw [he]
  refine ks_spliced ((h1 c σ s W h).go (Imm.refl _) q fun a x σ₁ s₁ ra h₁ i₁ j₁ q₁ => at_star h₁ ra q₁ fun as vs s₂ ras h₂ i₂ q₂ => spliced_nil ⟨as, σ₁, ?_, h₂, i₁.trans i₂, q₂⟩)
  rw [List.append_nil]; exact ras
theorem findObj_meth {K : Frag} {C : Addr} {name : Str} {od : Obj} {f : Addr} (hh : hasDictIn K C = true) (ha : findIn K (.ref C) name = some (some (.ref f))) (hg : specialIn K (.ref f) "__get__" = some (some (.builtin "function.__get__"))) (ht : takesIn K (.ref f) = some false) (hl : lookIn name od = some none) (hc : copiedNames.contains name = false) :
    findObj K C (some od) name = some (.bind (.builtin "function.__get__") (.ref f)) := by
  obtain ⟨cd, hc', hd⟩ := any_some hh
  unfold findObj
  have ho : W.ownOf cd (some od) name = some none := by unfold W.ownOf; rw [if_pos hd]; exact hl
  rw [hc', Option.bind_some, ha, Option.bind_some]
  simp only [hg, ht, Option.bind_some, ho, hc, Bool.false_and, Bool.false_eq_true, if_false]
/-- a method bound, up to the call -/
theorem bound_go {C f : Nat} {x : String} {o : Expr} {apos pos : Pos} {args : List Expr} {mo : PTx LV} {K : LV → LS → Prop} {E : LX → LS → Prop} {P : Value → Shared → Prop}
    (hg : plainGet TS.K C (Str.ofString x) = true) (hh : hasDictIn TS.K C = true) (hfn : findIn TS.K (.ref C) (Str.ofString x) = some (some (.ref f))) (hsp : specialIn TS.K (.ref f) "__get__" = some (some (.builtin "function.__get__"))) (htk : takesIn TS.K (.ref f) = some false) (hty : typeIn TS.K (.ref f) = some (.type "function")) (hcp : copiedNames.contains (Str.ofString x) = false)
    (he : eval (.Call (.Attribute o (Str.ofString x) apos) args [] pos) env = (do
      let ov ← eval o env
      standAt apos.atName
      let (f, first) ← holding [ov] (do pure (← getAttr ov (Str.ofString x) true, []))
      callWith pos f first (backTo pos (starEach args env)) (backToKw pos (keywordEach [] env))))
    (ho : Sim prog w TS n A env (eval o env) VRel mo) (W : WF TS n c A env) (h : Rel prog w c env σ s) (q : (pbind mo fun a => pbind (pisinst C x a) fun _ => fun Q E σ => Q a σ) K E σ)
    (g : ∀ a u σ₁ s₁, Rel prog w (c.more [(u, methodObj (.ref f) (.ref a))]) env σ₁ s₁ → WF TS n (c.more [(u, methodObj (.ref f) (.ref a))]) A env → Imm s.heap s₁.heap → K (.ref a) σ₁ → wpAny (model prog w) A (callWith pos (.ref u) [] (argT pos args env) []) P (EPost prog w c env s.heap E) s₁) :
    wpAny (model prog w) A (eval (.Call (.Attribute o (Str.ofString x) apos) args [] pos) env) P (EPost prog w c env s.heap E) s := by
  rw [he]
  refine wpAny_bind ((ho c σ s W h).go (Imm.refl _) q fun a v σ₁ s₁ ra h₁ i₁ j₁ q₁ => wpAny_bind (wpAny_standAt (wpAny_bind (wpAny_holding (wpAny_bind ?_)))))
  cases a with
  | ref a =>
    obtain ⟨d, fs, es, e1, e2, e3, q₁⟩ := q₁
    cases ra.ref_inv
    obtain ⟨sl, es', n', I, r1, r2⟩ := h₁.inst e1 e2
    have X := W.top.kin.keeps h₁.keep
    have hl : lookIn (Str.ofString x) (dictOf es' n') = some none := by
      have := r2.look x
      rw [e3] at this
      rw [lookIn_dict]; exact this
    have k : ∀ b o, s₁.heap.get? b = some o → (s₁.heap.push (methodObj (.ref f) (.ref a))).get? b = some o := fun b o e => Heap.get?_push_of_some _ e
    refine get_bind X I (plainGet_of hg).1 (findObj_meth hh hfn hsp htk hl hcp) (plainGet_of hg).2 (wpAny_call (fn_get (s := { s₁ with toks := s₁.toks + 1 }) X hty (handed_on rfl (wpAny_pure ?_))))
    have h₂ := h₁.guardNew (tk := s₁.toks + 1) (o := methodObj (.ref f) (.ref a)) k (Heap.get?_push_size _ rfl) rfl rfl (fun _ => rfl)
    exact g a _ σ₁ _ h₂ (W.more fun p hp => by rw [List.mem_singleton.mp hp]; exact ⟨h₁.fresh_loc, h₁.fresh_cell⟩) (i₁.trans (Imm.of_keeps k)) q₁
  | _ => exact q₁.elim
theorem meth_of {u f : Nat} {self : Value} (h : Rel prog w (c.more [(u, methodObj (.ref f) self)]) env σ s) : s.heap.get? u = some (methodObj (.ref f) self) := by
  obtain ⟨og, g, _, _, e⟩ := h.guard (u, methodObj (.ref f) self) (.head _)
  rw [e rfl] at g; exact g
theorem call_bound {u f : Nat} {a : Nat} {p : List LV → PTx LV} {as : List LV} {vs : List Value} {Q : LV → LS → Prop} {E : LX → LS → Prop} {h0 : Heap} (hf : env.frame = some env.locals) (hp : SimF prog w TS n A (.ref f) p) (W : WF TS n c A env) (h : Rel prog w (c.more [(u, methodObj (.ref f) (.ref a))]) env σ s) (ras : VRels s.heap as vs) (i : Imm h0 s.heap) (q : p (.ref a :: as) Q E σ) :
    wpAny (model prog w) A (call (.ref u) vs) (Post prog w c env VRel h0 Q) (EPost prog w c env h0 E) s := by
  refine wpAny_call (method_call (meth_of h) (codeAny_mono (hp env hf c σ s (.ref a :: as) (.ref a :: vs) W h.less (.cons (.ref a) ras) Q E q) fun r s' z => ?_))
  cases r with
  | error e => exact z.imm i
  | ok fl => cases fl with
    | ret v => exact z.imm i
    | _ => exact z.elim
theorem sim_CallMethS {C f : Nat} {x : String} {o : Expr} {apos pos : Pos} {mo : PTx LV} {m : PTx (List LV)} {p : List LV → PTx LV} {e1 : Expr} {rest : List Expr}
    (hg : plainGet TS.K C (Str.ofString x) = true) (hh : hasDictIn TS.K C = true) (hfn : findIn TS.K (.ref C) (Str.ofString x) = some (some (.ref f))) (hsp : specialIn TS.K (.ref f) "__get__" = some (some (.builtin "function.__get__"))) (htk : takesIn TS.K (.ref f) = some false) (hty : typeIn TS.K (.ref f) = some (.type "function")) (hfi : fnIn TS.K f = true) (hcp : copiedNames.contains (Str.ofString x) = false)
    (he : eval (.Call (.Attribute o (Str.ofString x) apos) (e1 :: rest) [] pos) env = (do
      let ov ← eval o env
      standAt apos.atName
      let (f, first) ← holding [ov] (do pure (← getAttr ov (Str.ofString x) true, []))
      callWith pos f first (backTo pos (starEach (e1 :: rest) env)) (backToKw pos (keywordEach [] env))))
    (hf : env.frame = some env.locals) (he1 : starEach (e1 :: rest) env = (false, eval e1 env) :: starEach rest env) (hst : (argT pos rest env).any (·.1) = true) (ho : Sim prog w TS n A env (eval o env) VRel mo) (ha : Sim prog w TS n A env (spliced (argT pos (e1 :: rest) env)) VRels m) (hp : SimF prog w TS n A (.ref f) p) :
    Sim prog w TS n A env (eval (.Call (.Attribute o (Str.ofString x) apos) (e1 :: rest) [] pos) env) VRel (pbind mo fun a => pbind (pisinst C x a) fun _ => pbind m fun as => p (a :: as)) := fun c σ s W h Q E q => by
  refine bound_go hg hh hfn hsp htk hty hcp he ho W h (K := fun a σ => m (fun as σ' => p (a :: as) Q E σ') E σ) q fun a u σ₁ s₁ h₁ W₁ i₁ q₁ => ?_
  have ha := ha _ σ₁ s₁ W₁ h₁
  unfold argT at ha hst ⊢
  rw [he1] at ha ⊢
  refine ks_call (P := MethP TS.K u f (.ref a)) (by show (false || (backTo pos (starEach rest env)).any (·.1)) = true; rw [hst]; rfl) (keeps_M hfi) (evalArgs_plain ?_)
  refine wpAny_mono (ha.go i₁ q₁ (P := fun vs s₁ => MethP TS.K u f (.ref a) s₁.heap ∧ wpAny (model prog w) A (call (.ref u) ([] ++ vs)) (Post prog w c env VRel s.heap Q) (EPost prog w c env s.heap E) s₁) fun as vs σ₂ s₂ ra h₂ i₂ j₂ q₂ => ⟨⟨meth_of h₂, W.top.kin.keeps h₂.keep⟩, call_bound hf hp W h₂ ra i₂ q₂⟩) (fun _ _ x => x) fun _ _ x => x.less
theorem sim_CallMethL {C f : Nat} {x : String} {o : Expr} {apos pos spos : Pos} {e1 : Expr} {mo m : PTx LV} {p : List LV → PTx LV}
    (hg : plainGet TS.K C (Str.ofString x) = true) (hh : hasDictIn TS.K C = true) (hfn : findIn TS.K (.ref C) (Str.ofString x) = some (some (.ref f))) (hsp : specialIn TS.K (.ref f) "__get__" = some (some (.builtin "function.__get__"))) (htk : takesIn TS.K (.ref f) = some false) (hty : typeIn TS.K (.ref f) = some (.type "function")) (hfi : fnIn TS.K f = true) (hcp : copiedNames.contains (Str.ofString x) = false)
    (he : eval (.Call (.Attribute o (Str.ofString x) apos) [.Starred e1 spos] [] pos) env = (do
      let ov ← eval o env
      standAt apos.atName
      let (f, first) ← holding [ov] (do pure (← getAttr ov (Str.ofString x) true, []))
      callWith pos f first (backTo pos (starEach [.Starred e1 spos] env)) (backToKw pos (keywordEach [] env))))
    (hf : env.frame = some env.locals) (he1 : starEach [.Starred e1 spos] env = [(true, eval e1 env)]) (ho : Sim prog w TS n A env (eval o env) VRel mo) (ha : Sim prog w TS n A env (eval e1 env) VRel m) (hp : SimF prog w TS n A (.ref f) p) :
    Sim prog w TS n A env (eval (.Call (.Attribute o (Str.ofString x) apos) [.Starred e1 spos] [] pos) env) VRel (pbind mo fun a => pbind (pisinst C x a) fun _ => pbind m fun v => pbind (pstar v) fun as => p (a :: as)) := fun c σ s W h Q E q => by
  refine bound_go hg hh hfn hsp htk hty hcp he ho W h (K := fun a σ => m (fun v σ' => pstar v (fun as σ'' => p (a :: as) Q E σ'') E σ') E σ) q fun a u σ₁ s₁ h₁ W₁ i₁ q₁ => ?_
  unfold argT
  rw [he1]
  refine ks_call (P := MethP TS.K u f (.ref a)) rfl (keeps_M hfi) (ks_lone ?_)
  refine wpAny_mono ((ha _ σ₁ s₁ W₁ h₁).go i₁ q₁ (P := fun v s₁ => StarOf (model prog w) A (EPost prog w c env s.heap E) v (fun vs s₂ => MethP TS.K u f (.ref a) s₂.heap ∧ wpAny (model prog w) A (call (.ref u) ([] ++ vs)) (Post prog w c env VRel s.heap Q) (EPost prog w c env s.heap E) s₂) s₁) fun b y σ₂ s₂ rb h₂ i₂ j₂ q₂ => at_star h₂ rb q₂ fun as vs s₃ ras h₃ i₃ q₃ => ⟨⟨meth_of h₃, W.top.kin.keeps h₃.keep⟩, call_bound hf hp W h₃ ras (i₂.trans i₃) q₃⟩) (fun _ _ x => x) fun _ _ x => x.less

-- making a thing
theorem sim_make {C fI : Nat} {p : List LV → PTx LV} (hm : makesIn TS.K C = true) (hi : findIn TS.K (.ref C) "__init__" = some (some (.ref fI))) (hfn : typeIn TS.K (.ref fI) = some (.type "function")) (hh : A.handled = none)
    (hp : ∀ A', A'.handled = none → SimF prog w TS n A' (.ref fI) p) : SimF prog w TS (n + 1) A (.ref C) (pmake C p) := fun env hf c σ s as xs W h ras Q E q => by
  obtain ⟨hh', g, dr, tk, os⟩ := s
  have X := W.top.kin.keeps h.keep
  have W' : WF TS n c (A.under (.builtin "type.__call__" ⟨.ref C :: xs, []⟩)) env := by
    refine ⟨W.sep, ?_, ?_, W.top, W.frl, W.hand, W.fr⟩
    · rw [depth_under_kw]; have := W.room; omega
    · have e : (A.under (.builtin "type.__call__" ⟨.ref C :: xs, []⟩)).units = A.units + (Code.builtin "type.__call__" ⟨.ref C :: xs, []⟩).cUnits := rfl
      have e2 : (Code.builtin "type.__call__" ⟨.ref C :: xs, []⟩).cUnits = 1 := rfl
      have := W.units
      omega
  have k1 : ∀ b o, hh'.get? b = some o → (hh'.push emptyDict).get? b = some o := fun b o e => Heap.get?_push_of_some _ e
  have h1 := h.alloc (tk := tk) (o := .attrs []) k1 ⟨[], 0, Heap.get?_push_size _ rfl, .nil⟩
  have k2 : ∀ b o, (hh'.push emptyDict).get? b = some o → ((hh'.push emptyDict).push (instObj C hh'.objs.size)).get? b = some o := fun b o e => Heap.get?_push_of_some _ e
  have h2 := h1.alloc (tk := tk) (o := .inst C hh'.objs.size []) k2 ⟨#[], Heap.get?_push_size _ rfl, .nil⟩
  dsimp only at h2
  rw [Heap.size_push] at h2
  have i2 := (Imm.of_keeps k1).trans (Imm.of_keeps k2)
  refine make_core (makes_of X hm) (looks_findIn X hi) (fun self => bind_fn X self hfn) (.inl rfl) ?_
  have ne : hh'.objs.size ≠ hh'.objs.size + 1 := Nat.ne_of_lt (Nat.lt_succ_self _)
  have f2 : σ.heap (hh'.objs.size + 1) = none := by
    have := h1.fresh_obj
    dsimp only at this
    rw [Heap.size_push] at this
    simpa [LS.put, Ne.symm ne] using this
  refine codeAny_mono (hp (A.under (.builtin "type.__call__" ⟨.ref C :: xs, []⟩)) hh env hf c _ _ (.ref (hh'.objs.size + 1) :: as) (.ref (hh'.objs.size + 1) :: xs) W' h2 (.cons (.ref _) (ras.imm i2)) _ E (q hh'.objs.size (hh'.objs.size + 1) ne h.fresh_obj f2)) fun r s' z => ?_
  cases r with
  | error e => exact z.imm i2
  | ok f =>
    cases f with
    | ret v =>
      obtain ⟨lv, σ', rv, r', im', rfl, q'⟩ := z
      cases rv
      exact ⟨rfl, _, σ', .ref _, r', i2.trans im', q'⟩
    | _ => exact z.elim
end
end Mine
end
noncomputable section
open PySem PySem.W PyProof.Rows PySem.Calls PySem.SeqAt
set_option Elab.async false
set_option linter.unusedVariables false
set_option linter.unusedSimpArgs false
namespace Mine
def bndP (names : List String) (as : List LV) : Option (List (String × LV)) := if as.length = names.length then some (names.zip as) else none
def bndV (names : List String) (va : String) (as : List LV) : Option (List (String × LV)) := if names.length ≤ as.length ∧ as.length ≤ cap then some (names.zip as ++ [(va, .tup (as.drop names.length))]) else none
theorem zip_rel {h : Heap} : ∀ {names : List String} {as : List LV} {xs : List Value}, VRels h as xs → BRel h (names.zip as) ((names.map Str.ofString).zip xs) := by
  intro names
  induction names with
  | nil => exact fun _ => .nil
  | cons n ns ih =>
    intro as xs r
    cases as with
    | nil => cases r.nil_inv; exact .nil
    | cons a as => obtain ⟨x, xs, rfl, y, r⟩ := r.cons_inv; exact .cons y (ih r)
theorem BRel.append {h : Heap} {as bs vs ws} (r : BRel h as vs) (q : BRel h bs ws) : BRel h (as ++ bs) (vs ++ ws) := by
  induction r with
  | nil => exact q
  | cons x _ ih => exact .cons x ih
section
variable {prog : Program} {w : World} {TS : TopS} {c : Cx} {A : Around} {env : Env} {σ : LS} {s : Shared} {n : Nat}
theorem bind_plain {fd : FuncData} {names : List String} (hb : ∀ (s : Shared) (xs : List Value), TS.K.In s.heap → xs.length = names.length → BindsTo s fd ⟨xs, []⟩ ((names.map Str.ofString).zip xs)) : SimBind prog w TS n A fd (bndP names) := fun c env σ s as xs bs W h ras hbs Q E g => by
  unfold bndP at hbs
  split at hbs
  · rename_i hl
    cases hbs
    refine hb s xs (W.top.kin.keeps h.keep) (by rw [← ras.length]; exact hl) _ _ _ _ ?_
    exact g _ s h (fun _ _ e => e) (zip_rel ras)
  · cases hbs
theorem bind_vararg {fd : FuncData} {names : List String} {va : String} (hb : ∀ (pre rest : List Value), pre.length = names.length → bindArgs fd ⟨pre ++ rest, []⟩ = (do let t ← newTuple rest; pure ((names.map Str.ofString).zip pre ++ [(Str.ofString va, t)]))) : SimBind prog w TS n A fd (bndV names va) := fun c env σ s as xs bs W h ras hbs Q E g => by
  unfold bndV at hbs
  split at hbs
  · rename_i hl
    cases hbs
    have hlen := ras.length
    have e : xs = xs.take names.length ++ xs.drop names.length := by simp
    have hc := cap_le
    rw [e, hb _ _ (by rw [List.length_take]; omega)]
    refine wpAny_bind (wpAny_newTuple (wpAny_pure ?_) (by rw [List.length_drop]; omega))
    have k : ∀ b o, s.heap.get? b = some o → (s.heap.push (tupObj (xs.drop names.length) 0)).get? b = some o := fun b o e => Heap.get?_push_of_some _ e
    have im := Imm.of_keeps k
    refine g _ _ (h.keeps (tk := s.toks) k) k ?_
    have e2 : names.zip as = names.zip (as.take names.length) := by
      clear hb e
      have : ∀ (l : List String) (r : List LV), l.zip r = l.zip (r.take l.length) := by
        intro l
        induction l with
        | nil => simp
        | cons x l ih => intro r; cases r with | nil => simp | cons y r => simp [ih r]
      exact this names as
    rw [e2]
    exact (zip_rel ((ras.take names.length).imm im)).append (.cons (.tup (Heap.get?_push_size _ rfl) ((ras.drop names.length).imm im)) .nil)
  · cases hbs
theorem va_add {fd : FuncData} {p1 p2 p3 : Pos} (hp : fd.params = { posonlyargs := [], args := [⟨Str.ofString "self", none, p1⟩, ⟨Str.ofString "node", none, p2⟩], vararg := some ⟨Str.ofString "predecessors", none, p3⟩, kwonlyargs := [], kw_defaults := [], kwarg := none, defaults := [] }) (hd : fd.defaults = .none) (pre rest : List Value) (hl : pre.length = 2) :
    bindArgs fd ⟨pre ++ rest, []⟩ = (do let t ← newTuple rest; pure ((["self", "node"].map Str.ofString).zip pre ++ [(Str.ofString "predecessors", t)])) := by
  obtain ⟨x, pre, rfl⟩ := List.exists_cons_of_length_eq_add_one hl
  obtain ⟨y, rfl⟩ := List.length_eq_one_iff.mp (Nat.succ.inj hl)
  cases fd
  cases hp; cases hd
  cases rest <;> kernel_rfl
theorem va_done {fd : FuncData} {p1 p3 : Pos} (hp : fd.params = { posonlyargs := [], args := [⟨Str.ofString "self", none, p1⟩], vararg := some ⟨Str.ofString "nodes", none, p3⟩, kwonlyargs := [], kw_defaults := [], kwarg := none, defaults := [] }) (hd : fd.defaults = .none) (pre rest : List Value) (hl : pre.length = 1) :
    bindArgs fd ⟨pre ++ rest, []⟩ = (do let t ← newTuple rest; pure ((["self"].map Str.ofString).zip pre ++ [(Str.ofString "nodes", t)])) := by
  obtain ⟨x, rfl⟩ := List.length_eq_one_iff.mp hl
  cases fd
  cases hp; cases hd
  cases rest <;> kernel_rfl
end
end Mine
end
noncomputable section
open PySem PySem.W PyProof.Rows PySem.Calls PySem.SeqAt
set_option Elab.async false
set_option linter.unusedVariables false
set_option linter.unusedSimpArgs false
set_option maxRecDepth 100000
namespace Mine
/-- xs[k] from the end -/
def plneg : LV → LV → PTx LV
  | .ref a, .int k => fun Q _ σ => ∃ xs v, σ.heap a = some (.list xs) ∧ k < 0 ∧ 0 ≤ k + xs.length ∧ xs[(k + xs.length).toNat]? = some v ∧ Q v σ
  | _, _ => pfail
/-- xs[i::k]: some of its items -/
def pstep (a b c : LV) : PTx LV := fun Q _ σ => ∃ (l : Nat) (i k : Int) (xs : List LV), a = .ref l ∧ b = .int i ∧ c = .int k ∧ σ.heap l = some (.list xs) ∧ k ≠ 0 ∧ ∀ d ys, σ.heap d = none → (∀ y ∈ ys, y ∈ xs) → ys.length ≤ xs.length → Q (.ref d) (σ.put d (.list ys))
section
variable {prog : Program} {w : World} {TS : TopS} {c : Cx} {A : Around} {env : Env} {σ : LS} {s : Shared} {n : Nat}


theorem slice_push (h : Rel prog w c env σ s) (l u st : Value) : Rel prog w c env σ { s with heap := s.heap.push { cls := .type "slice", data := .fields #[l, u, st] } } ∧ Imm s.heap (s.heap.push { cls := .type "slice", data := .fields #[l, u, st] }) :=
  have k : ∀ b o, s.heap.get? b = some o → (s.heap.push { cls := .type "slice", data := .fields #[l, u, st] }).get? b = some o := fun b o e => Heap.get?_push_of_some _ e
  ⟨h.keeps (tk := s.toks) k, Imm.of_keeps k⟩
theorem sim_from {value lo : Expr} {p pos : Pos} {mo ml : PTx LV} (ho : Sim prog w TS n A env (eval value env) VRel mo) (hl : Sim prog w TS n A env (eval lo env) VRel ml) (ht : ∀ o r, letTemporaryGo value o r = pure ()) :
    Sim prog w TS n A env (eval (.Subscript value (.Slice (some lo) none none p) pos) env) VRel (pbind mo fun a => pbind ml fun b => pfrom a b) := fun c σ s W h Q E q => by
  refine wpAny_Subscript_Slice slot_list_getitem.lookup ((ho c σ s W h).go (Imm.refl _) q fun a x σ₁ s₁ ra h₁ i₁ j₁ q₁ => wpAny_Slice ((hl c σ₁ s₁ W h₁).go i₁ q₁ fun b y σ₂ s₂ rb h₂ i₂ j₂ q₂ => wpAny_pure (wpAny_pure ?_))) ht
  have ra := ra.imm j₂
  cases a with
  | ref a9 =>
   cases b with
   | int k9 =>
    obtain ⟨xs, e, hk, q₂⟩ := q₂
    cases ra.ref_inv; obtain ⟨t, rfl⟩ := rb.int_inv
    obtain ⟨h₃, i₃⟩ := slice_push h₂ (.int k9 t) .none .none
    obtain ⟨hz, it, n1, l1, r1⟩ := h₃.list_at e
    have hsz := r1.sizeA
    have := cap_le
    refine ⟨l1.isList.typeIs, wpAny_getItem_list_slice l1.isList (Heap.IsSliceOf.new ..) (.int _ _) .none .none (by simp) ?_ (by omega)⟩
    have e9 : slicePick it (some k9) none none = (it.toList.drop k9.toNat).toArray := by
      have := slicePick_from' it k9.toNat
      rwa [Int.toNat_of_nonneg hk] at this
    rw [e9]
    have k : ∀ b o, (s₂.heap.push { cls := .type "slice", data := .fields #[.int k9 t, .none, .none] }).get? b = some o → ((s₂.heap.push { cls := .type "slice", data := .fields #[.int k9 t, .none, .none] }).push { cls := .type "list", data := .seq (it.toList.drop k9.toNat).toArray }).get? b = some o := fun b o e => Heap.get?_push_of_some _ e
    have h₄ := h₃.alloc (tk := s₂.toks) (o := .list (xs.drop k9.toNat)) k ⟨by rw [List.length_drop]; omega, _, 0, Heap.get?_push_size _ rfl, by simpa using (r1.drop k9.toNat).imm (Imm.of_keeps k)⟩
    exact ⟨_, _, .ref _, h₄, (i₂.trans i₃).trans (Imm.of_keeps k), q₂ _ h₃.fresh_obj⟩
   | _ => exact q₂.elim
  | _ => exact q₂.elim
theorem sim_upto {value hi : Expr} {p pos : Pos} {mo ml : PTx LV} (ho : Sim prog w TS n A env (eval value env) VRel mo) (hl : Sim prog w TS n A env (eval hi env) VRel ml) (ht : ∀ o r, letTemporaryGo value o r = pure ()) :
    Sim prog w TS n A env (eval (.Subscript value (.Slice none (some hi) none p) pos) env) VRel (pbind mo fun a => pbind ml fun b => pupto a b) := fun c σ s W h Q E q => by
  refine wpAny_Subscript_Slice slot_list_getitem.lookup ((ho c σ s W h).go (Imm.refl _) q fun a x σ₁ s₁ ra h₁ i₁ j₁ q₁ => wpAny_Slice (wpAny_pure ((hl c σ₁ s₁ W h₁).go i₁ q₁ fun b y σ₂ s₂ rb h₂ i₂ j₂ q₂ => wpAny_pure ?_))) ht
  have ra := ra.imm j₂
  cases a with
  | ref a9 =>
   cases b with
   | int k9 =>
    obtain ⟨xs, e, hk, q₂⟩ := q₂
    cases ra.ref_inv; obtain ⟨t, rfl⟩ := rb.int_inv
    obtain ⟨h₃, i₃⟩ := slice_push h₂ .none (.int k9 t) .none
    obtain ⟨hz, it, n1, l1, r1⟩ := h₃.list_at e
    have hsz := r1.sizeA
    have := cap_le
    refine ⟨l1.isList.typeIs, wpAny_getItem_list_slice l1.isList (Heap.IsSliceOf.new ..) .none (.int _ _) .none (by simp) ?_ (by omega)⟩
    have e9 : slicePick it none (some k9) none = (it.toList.take k9.toNat).toArray := by
      have := slicePick_upto' it k9.toNat
      rwa [Int.toNat_of_nonneg hk] at this
    rw [e9]
    have k : ∀ b o, (s₂.heap.push { cls := .type "slice", data := .fields #[.none, .int k9 t, .none] }).get? b = some o → ((s₂.heap.push { cls := .type "slice", data := .fields #[.none, .int k9 t, .none] }).push { cls := .type "list", data := .seq (it.toList.take k9.toNat).toArray }).get? b = some o := fun b o e => Heap.get?_push_of_some _ e
    have h₄ := h₃.alloc (tk := s₂.toks) (o := .list (xs.take k9.toNat)) k ⟨by rw [List.length_take]; omega, _, 0, Heap.get?_push_size _ rfl, by simpa using (r1.take k9.toNat).imm (Imm.of_keeps k)⟩
    exact ⟨_, _, .ref _, h₄, (i₂.trans i₃).trans (Imm.of_keeps k), q₂ _ h₃.fresh_obj⟩
   | _ => exact q₂.elim
  | _ => exact q₂.elim

-- or
theorem sim_Or {x y : Expr} {pos : Pos} {m k : PTx LV} {t : LV → PTx Bool} (hx : Sim prog w TS n A env (eval x env) VRel m) (ht : Sim1 prog w TS n A env truthy REq t) (hy : Sim prog w TS n A env (eval y env) VRel k) :
    Sim prog w TS n A env (eval (.BoolOp .Or [x, y] pos) env) VRel (pbind m fun a => pbind (t a) fun b => fun Q E σ => if b = true then Q a σ else k Q E σ) := fun c σ s W h Q E q => by
  rw [arm_eval_BoolOp]
  show wpAny _ A (boolOp pos .Or [eval x env, eval y env]) _ _ s
  unfold boolOp
  refine wpAny_bind ((hx c σ s W h).go (Imm.refl _) q fun a v σ₁ s₁ ra h₁ i₁ j₁ q₁ => wpAny_bind (wpAny_standAt (wpAny_bind (wpAny_holding ((ht c σ₁ s₁ a v W h₁ ra).go i₁ q₁ fun b b' σ₂ s₂ rb h₂ i₂ j₂ q₂ => ?_)))))
  cases show b = b' from rb
  cases b with
  | true => exact wpAny_pure ⟨a, σ₂, ra.imm j₂, h₂, i₂, by simpa using q₂⟩
  | false => exact (hy c σ₂ s₂ W h₂).fin i₂ (by simpa using q₂)
-- bool(list)
def pbool : List LV → PTx LV
  | [.ref a] => fun Q _ σ => ∃ xs, σ.heap a = some (.list xs) ∧ Q (.bool (!xs.isEmpty)) σ
  | _ => pfail
theorem bool_new_eq (x : Value) : Builtin.«bool.__new__» ⟨[.type "bool", x], []⟩ = (do ret (.bool (← truthy x))) := by
  unfold Builtin.«bool.__new__»
  simp only [isType, pure_bind, F.conv_sub_bool, Bool.not_true, Bool.false_eq_true, if_false]
  rfl
theorem bool_new_list {a : Addr} {it : Array Value} {n1 : Nat} (hz : it.size ≤ cap) : Meets (Builtin.«bool.__new__» ⟨[.type "bool", .ref a], []⟩) (fun A R s => IsL s.heap a it n1 ∧ R (.ok (.ret (.bool (!it.isEmpty)))) { s with toks := s.toks + 1 + 1 }) :=
  Meets.of_wp fun prog w A R s hs => by
    obtain ⟨l1, hs⟩ := hs
    rw [bool_new_eq]
    refine wpAny_bind (wpAny_truthy_list l1.isList (by have : cap < 2 ^ 62 := by decide
                                                       omega) (wpAny_pure ⟨_, rfl, hs⟩))
theorem sim_boolC : SimL prog w TS n A env (fun vs => call (.type "bool") vs) VRel pbool := fun c σ s as xs W h ras Q E q => by
  unfold pbool at q; split at q
  · obtain ⟨ys, e, q⟩ := q
    obtain ⟨x, rfl, rx⟩ := ras.one_inv
    cases rx.ref_inv
    obtain ⟨hz, it, n1, l1, r1⟩ := h.list_at e
    have hsz := r1.sizeA
    refine call_bool_1 (bool_new_list (n1 := n1) (it := it) (by omega)) ⟨l1, rfl, _, σ, ?_, h.toks _, Imm.refl _, q⟩
    have : (!it.isEmpty) = !ys.isEmpty := by
      congr 1
      rw [Bool.eq_iff_iff]; simp only [List.isEmpty_iff_length_eq_zero, Array.isEmpty_iff_size_eq_zero]; omega
    rw [this]; exact .bool _
  · exact q.elim

-- lists that differ
theorem ne_loopAt (l b : Addr) (items items2 : Array Value) (n n2 : Nat) (dd dd2 : Option Addr) (sl sl2 : Array (Option Value)) (hsz : items.size = items2.size) (e : Nat → Bool) (k : Nat) :
    ∀ i : Nat, items.size - i = k → Meets (Builtin.«list.__eq__.loop» ⟨[.ref l, .ref b, rawInt i, rawInt 3], []⟩)
      (fun A R s => s.heap.get? l = some { cls := .type "list", dict := dd, data := .seq items n, slots := sl } ∧ s.heap.get? b = some { cls := .type "list", dict := dd2, data := .seq items2 n2, slots := sl2 } ∧
        (∀ j (h1 : j < items.size) (h2 : j < items2.size), EqAt A.in1 s items[j] items2[j] (e j)) ∧
        R (.ok (.ret (.bool (!((List.range items.size).drop i).all e)))) s) := by
  induction k with
  | zero =>
    intro i hk prog w A R s h
    obtain ⟨hp, g, d, tk, os⟩ := s; obtain ⟨hl, hb, he, h⟩ := h
    wp_walk using AutoSeq1.wpAny_loadPart' hl, AutoSeq1.wpAny_loadPart' hb
    have hi1 : items[((i : Nat) : Int).toNat]? = none := by simp; omega
    have hi2 : items2[((i : Nat) : Int).toNat]? = none := by simp; omega
    have hd : (List.range items.size).drop i = [] := by simp; omega
    rw [hd] at h
    rw [hi1, hi2]
    wp_walk using AutoSeq1.wpAny_loadPart' hl, AutoSeq1.wpAny_loadPart' hb
    show R (.ok (.ret (.bool (items.size != items2.size)))) _
    rw [hsz]
    simpa using h
  | succ k ih =>
    intro i hk prog w A R s h
    obtain ⟨hp, g, d, tk, os⟩ := s; obtain ⟨hl, hb, he, h⟩ := h
    wp_walk using AutoSeq1.wpAny_loadPart' hl, AutoSeq1.wpAny_loadPart' hb
    have hlt : i < items.size := by omega
    have hlt2 : i < items2.size := by omega
    have hi1 : items[((i : Nat) : Int).toNat]? = some items[i] := by simp [hlt]
    have hi2 : items2[((i : Nat) : Int).toNat]? = some items2[i] := by simp [hlt2]
    have hd : (List.range items.size).drop i = i :: (List.range items.size).drop (i + 1) := by simp [List.drop_eq_getElem_cons, hlt]
    have hc : ((i : Int) + 1) = ((i + 1 : Nat) : Int) := by push_cast; rfl
    rw [hd, List.all_cons] at h
    rw [hi1, hi2]
    refine wpAny_bind (he i hlt hlt2 prog w _ _ ?_)
    cases hb' : e i with
    | true =>
      rw [hb'] at h
      wp_walk
      rw [hc]
      exact ⟨plainId_quiet MeetsSeq3.plain_eq_loop _, codeAny_builtin MeetsSeq3.entry_eq_loop (by
        rw [Around.under_plainId MeetsSeq3.plain_eq_loop _]
        exact ih (i + 1) (by omega) prog w A R _ ⟨hl, hb, he, by simpa using h⟩)⟩
    | false =>
      rw [hb'] at h
      wp_walk using AutoSeq1.wpAny_loadPart' hl, AutoSeq1.wpAny_loadPart' hb
      rw [hi1, hi2]
      wp_walk
      simpa using h
theorem list_neAt (l b : Addr) (items items2 : Array Value) (n n2 : Nat) (dd dd2 : Option Addr) (sl sl2 : Array (Option Value)) (hsz : items.size = items2.size) (e : Nat → Bool) :
    Meets (Builtin.«list.__ne__» ⟨[.ref l, .ref b], []⟩)
      (fun A R s => s.heap.get? l = some { cls := .type "list", dict := dd, data := .seq items n, slots := sl } ∧ s.heap.get? b = some { cls := .type "list", dict := dd2, data := .seq items2 n2, slots := sl2 } ∧
        (∀ j (h1 : j < items.size) (h2 : j < items2.size), EqAt A.in1 s items[j] items2[j] (e j)) ∧
        R (.ok (.ret (.bool (!(List.range items.size).all e)))) s) := by
  intro prog w A R s h
  obtain ⟨hp, g, d, tk, os⟩ := s; obtain ⟨hl, hb, he, h⟩ := h
  have f3 := AutoSeq1.sub_list_list
  have hne : ¬ (items.size != items2.size) = true := by simp [hsz]
  wp_walk using AutoSeq1.wpAny_loadPart' hl, AutoSeq1.wpAny_loadPart' hb
  exact ⟨plainId_quiet MeetsSeq3.plain_eq_loop _, codeAny_builtin MeetsSeq3.entry_eq_loop (by
    rw [Around.under_plainId MeetsSeq3.plain_eq_loop _]
    exact ne_loopAt l b items items2 n n2 dd dd2 sl sl2 hsz e _ 0 rfl prog w A R _ ⟨hl, hb, he, by simpa using h⟩)⟩
theorem list_ne_lengthsAt (l b : Addr) (items items2 : Array Value) (n n2 : Nat) (dd dd2 : Option Addr) (sl sl2 : Array (Option Value)) (hc0 : (items.size != items2.size) = true) :
    Meets (Builtin.«list.__ne__» ⟨[.ref l, .ref b], []⟩)
      (fun _ R s => s.heap.get? l = some { cls := .type "list", dict := dd, data := .seq items n, slots := sl } ∧ s.heap.get? b = some { cls := .type "list", dict := dd2, data := .seq items2 n2, slots := sl2 } ∧
        R (.ok (.ret (.bool true))) s) :=
  .of_wp fun prog w A R s h => by
    obtain ⟨hp, g, d, tk, os⟩ := s; obtain ⟨hl, hb, h⟩ := h
    have f3 := AutoSeq1.sub_list_list
    wp_walk using AutoSeq1.wpAny_loadPart' hl, AutoSeq1.wpAny_loadPart' hb
    exact ⟨_, rfl, h⟩

theorem ne_listAt {l b : Addr} {items items2 : Array Value} {e : Nat → Bool} {Q : Value → Shared → Prop} {E : Value → Shared → Prop} (hl : s.heap.IsList l items) (hb : s.heap.IsList b items2) (hsz : items.size = items2.size) (hu : A.units < cLine)
    (he : ∀ j (h1 : j < items.size) (h2 : j < items2.size), EqAt A.in1 s items[j] items2[j] (e j)) (h : Q (.bool (!(List.range items.size).all e)) s) : wpAny (model prog w) A (compareOp .NotEq (.ref l) (.ref b)) Q E s := by
  obtain ⟨⟨cls, dd, data, sl⟩, ho, hc, n, hd⟩ := id hl
  obtain ⟨⟨cls2, dd2, data2, sl2⟩, ho2, hc2, n2, hd2⟩ := id hb
  simp only at hc hd hc2 hd2
  subst hc hd hc2 hd2
  exact richCompare_meets_room (op := .NotEq) ⟨_, ho, rfl⟩ ⟨_, ho2, rfl⟩ F.slot_list_ne F.entry_list_ne (F.args_list_ne_2 _ _) (list_neAt l b items items2 n n2 dd dd2 sl sl2 hsz e)
    ⟨ho, ho2, he, show Value.bool _ ≠ Value.notImplemented ∧ Q (.bool (!(List.range items.size).all e)) s from ⟨(fun x => nomatch x), h⟩⟩ hu
theorem ne_list_lengthsAt {l b : Addr} {items items2 : Array Value} {Q : Value → Shared → Prop} {E : Value → Shared → Prop} (hl : s.heap.IsList l items) (hb : s.heap.IsList b items2) (hsz : (items.size != items2.size) = true) (hu : A.units < cLine)
    (h : Q (.bool true) s) : wpAny (model prog w) A (compareOp .NotEq (.ref l) (.ref b)) Q E s := by
  obtain ⟨⟨cls, dd, data, sl⟩, ho, hc, n, hd⟩ := id hl
  obtain ⟨⟨cls2, dd2, data2, sl2⟩, ho2, hc2, n2, hd2⟩ := id hb
  simp only at hc hd hc2 hd2
  subst hc hd hc2 hd2
  exact richCompare_meets_room (op := .NotEq) ⟨_, ho, rfl⟩ ⟨_, ho2, rfl⟩ F.slot_list_ne F.entry_list_ne (F.args_list_ne_2 _ _) (list_ne_lengthsAt l b items items2 n n2 dd dd2 sl sl2 hsz)
    ⟨ho, ho2, show Value.bool true ≠ Value.notImplemented ∧ Q (.bool true) s from ⟨(fun x => nomatch x), h⟩⟩ hu
theorem sim_plne0 : Sim2 prog w TS n A env (compareOp .NotEq) RB (pnot pleq0) := fun c σ s a x b y W h ra rb Q E q => by
  unfold pnot pleq0 at q; split at q
  · obtain ⟨xs, e1, e2, q⟩ := q
    cases ra.ref_inv; cases rb.ref_inv
    obtain ⟨hz, it, n1, l1, r1⟩ := h.list_at e1
    obtain ⟨hz2, it2, n2, l2, r2⟩ := h.list_at e2
    have s1 := r1.sizeA; have s2 := r2.sizeA
    have hu : A.units < cLine := Nat.lt_of_le_of_lt (Nat.le_add_right _ _) W.units
    cases xs with
    | nil =>
      simp only [List.length_nil] at s1 s2
      refine ne_listAt (e := fun _ => true) l1.isList l2.isList (by omega) hu (fun j h1 h2 => absurd h1 (by omega)) ⟨_, σ, ?_, h, Imm.refl _, q⟩
      show _ = _; rw [s1]; rfl
    | cons v vs =>
      simp only [List.length_nil, List.length_cons] at s1 s2
      refine ne_list_lengthsAt l1.isList l2.isList (by simp; omega) hu ⟨_, σ, ?_, h, Imm.refl _, q⟩
      rfl
  · exact q.elim
end
end Mine
end
noncomputable section
open PySem PySem.W PyProof.Rows PySem.Calls PySem.SeqAt
set_option Elab.async false
set_option linter.unusedVariables false
set_option linter.unusedSimpArgs false
set_option maxRecDepth 100000
namespace Mine
def plitemH : LV → LV → PTx LV
  | .ref a, .int k => fun Q E σ => ∃ xs, σ.heap a = some (.list xs) ∧ 0 ≤ k ∧ k < 2 ^ 60 ∧ (match xs[k.toNat]? with | some v => Q v σ | none => E ⟨"IndexError", true⟩ σ)
  | _, _ => pfail
theorem entry_unchain : entryFor table "proto.unchain" = some Builtin.«proto.unchain» := entryFor_of_fast (by kernel_rfl)
theorem plain_unchain : plainId "proto.unchain" = true := by decide +kernel
section
variable {prog : Program} {w : World} {TS : TopS} {c : Cx} {A : Around} {env : Env} {σ : LS} {s : Shared} {n : Nat}

structure NewExcH (h h' : Heap) (e e0 : Addr) (cls : String) : Prop where
  keeps : ∀ b o, h.get? b = some o → h'.get? b = some o
  new : h.get? e = none
  there : ∃ ob t, h'.get? e = some ob ∧ ob.cls = .type cls ∧ ob.data = .fields #[t, .none, .ref e0, .none, .bool false, .none]

/-- an error raised while another is handled -/
theorem raise_under {α : Type} {cls msg : String} {e0 : Addr} {o0 : Obj} {vs0 : Array Value} {Q : α → Shared → Prop} {E : Value → Shared → Prop} (hp : PlainExc cls) (hh : A.handled = some (.ref e0)) (h0 : s.heap.get? e0 = some o0) (hd : o0.data = .fields vs0) (hc : vs0[2]? = some .none)
    (h : ∀ h' tk e, NewExcH s.heap h' e e0 cls → E (.ref e) { s with heap := h', toks := tk }) : wpAny (model prog w) A (raiseErrorWords cls msg : Sem α) Q E s := by
  unfold raiseErrorWords
  refine wpAny_bind (wpAny_mkText (wpAny_bind ?_))
  unfold newExc newTuple
  refine wpAny_bind (wpAny_newObj_type ?_)
  refine wpAny_bind (m := firstArgMember _ _) (wpAny_of_eq (a := Value.none) (by simp only [firstArgMember, hp.first]; rfl) ?_)
  rw [hp.own]
  refine wpAny_newObj_type ?_
  unfold raiseNew
  refine wpAny_bind (wpAny_handled ?_)
  rw [hh]
  dsimp only
  generalize ht : Value.ref s.heap.objs.size = tv
  generalize hH : s.heap.push { cls := .type "tuple", dict := none, data := .seq [.str (Str.ofString msg) s.toks].toArray } = H1
  have k1 : ∀ b o, s.heap.get? b = some o → H1.get? b = some o := fun b o e => hH ▸ Heap.get?_push_of_some _ e
  have hlt : e0 < H1.objs.size := Heap.lt_size (k1 _ _ h0)
  have hne : (Value.ref e0 != Value.ref H1.objs.size) = true := by
    have : e0 ≠ H1.objs.size := Nat.ne_of_lt hlt
    simp [this]
  rw [if_pos hne]
  have h0' := Heap.get?_push_of_some (h := H1) { cls := .type cls, dict := none, data := .fields (#[tv, .none, .none, .none, .bool false, .none] ++ #[]) } (k1 _ _ h0)
  refine wpAny_bind (wpAny_holding (wpAny_runValue (codeAny_builtin entry_unchain ?_)))
  rw [Around.under_plainId plain_unchain _]
  unfold Builtin.«proto.unchain»
  refine wpAny_bind (wpAny_field h0' hd hc ?_)
  rw [if_pos (show (Value.none == Value.none) = true from rfl)]
  refine wpAny_pure ?_
  show wpAny _ A (setField (.ref H1.objs.size) 2 (.ref e0) >>= fun _ => throw (.ref H1.objs.size)) _ _ _
  have hnew := Heap.get?_push_size H1 (o := { cls := .type cls, dict := none, data := .fields (#[tv, .none, .none, .none, .bool false, .none] ++ #[]) }) rfl
  refine wpAny_bind (wpAny_setField hnew rfl (by simp) (wpAny_throw (h _ _ _ ⟨fun b o e => ?_, ?_, _, tv, Heap.get?_update_self _ hnew rfl, rfl, ?_⟩)))
  · rw [Heap.get?_update_other _ _ (Ne.symm (Nat.ne_of_lt (Heap.lt_size (k1 _ _ e))))]
    exact Heap.get?_push_of_some _ (k1 _ _ e)
  · rw [← hH]; exact Heap.get?_none_of_le (by simp)
  · simp [Obj.mapFields]

theorem getItem_out_under {l : Addr} {items : Array Value} {k : Int} {t : Tok} {e0 : Addr} {o0 : Obj} {vs0 : Array Value} {Q : Value → Shared → Prop} {E : Value → Shared → Prop} (hh : A.handled = some (.ref e0)) (h0 : s.heap.get? e0 = some o0) (hd0 : o0.data = .fields vs0) (hc0 : vs0[2]? = some .none) (hl : s.heap.IsList l items)
    (hk : 0 ≤ k) (hout : (items.size : Int) ≤ k) (hhi : k < 2 ^ 63)
    (hE : ∀ h' tk e, NewExcH s.heap h' e e0 "IndexError" → E (.ref e) { s with heap := h', toks := tk }) :
    wpAny (model prog w) A (getItem (.ref l) (.int k t)) Q E s := by
  obtain ⟨o, ho, hc, ne, hd⟩ := id hl
  unfold getItem
  try with_reducible refine wpAny_holding ?_
  first | refine wpAny_bind (wpAny_pure ?_) | skip
  refine wpAny_bind (wpAny_sequenceKey hl.typeIs (by decide) ?_)
  refine wpAny_bind (wpAny_callSpecial?_slot (name := Str.ofString "__getitem__") hl.typeIs slot_list_getitem
    (wpAny_call_entry slot_list_getitem hl.typeIs entry_list_getitem ?_ (args_list_getitem _ _)))
  show wpAny _ _ (Builtin.List.listSubscript? (.int k t) >>= _) _ _ s
  refine wpAny_bind (wpAny_listSubscript_int (fitsIndex_both (by omega) hhi) ?_)
  clear hhi
  cases k with
  | ofNat j =>
    have hx : items[j]? = none := Array.getElem?_eq_none (by have : (items.size : Int) ≤ (j : Int) := hout; omega)
    show wpAny _ _ ((seqItemAt l j >>= fun r => pure (r.map (j, ·))) >>= _) _ _ s
    refine wpAny_bind (wpAny_bind (wpAny_seqItemAt ho hd (wpAny_pure ?_)))
    rw [hx]
    first
      | exact wpAny_bind (wpAny_rule (raise_under plainExc_IndexError hh h0 hd0 hc0 hE))
      | exact wpAny_bind (wpAny_rule (wpAny_bind (raise_under plainExc_IndexError hh h0 hd0 hc0 hE)))
      | exact wpAny_bind (wpAny_bind (wpAny_rule (raise_under plainExc_IndexError hh h0 hd0 hc0 hE)))
      | exact wpAny_rule (raise_under plainExc_IndexError hh h0 hd0 hc0 hE)
  | negSucc j => exact absurd hk (by omega)
theorem newExcH_at {nm : String} {h' : Heap} {tk : Nat} {e e0 : Addr} (h : Rel prog w c env σ s) (N : NewExcH s.heap h' e e0 nm) (hx : nm = "IndexError" ∨ nm = "StopIteration") :
    ExcAt c env σ h' ⟨nm, true⟩ (.ref e) ∧ Rel prog w c env σ { s with heap := h', toks := tk } ∧ Imm s.heap h' := by
  have k := N.keeps
  have hn := N.new
  obtain ⟨ob, args, e1, e2, e3⟩ := N.there
  refine ⟨⟨e, ob, _, rfl, ⟨e1, e2, hx, e3, ⟨?_, ?_, ?_⟩, by simp, fun q => by cases q⟩, .inl rfl⟩, h.keeps k, Imm.of_keeps k⟩
  · cases q : c.base.get? e with
    | none => rfl
    | some o => have := h.keep _ _ q; rw [hn] at this; cases this
  · cases q : σ.heap e with
    | none => rfl
    | some o => obtain ⟨ob, e', _⟩ := (h.obj _ o q).notImm; rw [hn] at e'; cases e'
  · rintro p hp rfl
    obtain ⟨og, g, _⟩ := h.guard p hp
    rw [hn] at g; cases g
theorem tail_plitemH {value slice : Expr} {e0 : Addr} (hon : TS.hnd = true) (hh : A.handled = some (.ref e0)) (hs : ∀ o i, subscripted slice false o i = operate [o, i] (getItem o i)) : Tail2 prog w TS n A env value slice plitemH := fun c σ s a x b y W h ra rb Q E q => by
  unfold plitemH at q; split at q
  · obtain ⟨xs, e, h0, hk, q⟩ := q
    cases ra.ref_inv; obtain ⟨t, rfl⟩ := rb.int_inv
    obtain ⟨hz, it, n1, l1, r1⟩ := h.list_at e
    have hsz := r1.sizeA
    split at q
    · rename_i v hx
      obtain ⟨u, h1, h2⟩ := r1.getA hx
      exact tail_any l1.isList.typeIs slot_list_getitem.lookup (wpAny_getItem_list l1.isList h0 (by omega) h1 ⟨v, σ, h2, h, Imm.refl _, q⟩) (hs _ _)
    · rename_i hx
      have hge := List.getElem?_eq_none_iff.mp hx
      obtain ⟨o, vs, g1, g2, g3⟩ := W.hand hon e0 hh
      obtain ⟨og, q1, q2, q3, _⟩ := h.guard _ g1
      refine tail_any l1.isList.typeIs slot_list_getitem.lookup (getItem_out_under hh q1 (q3.trans g2) g3 l1.isList h0 (by omega) (by omega) fun h' tk e N => ?_) (hs _ _)
      obtain ⟨z1, z2, z3⟩ := newExcH_at (tk := tk) h N (.inl rfl)
      exact ⟨_, σ, z1, z2, z3, q⟩
  · exact q.elim

/-- the rules of a mark: nothing but the handled changes -/
theorem WF.mark {e0 : Addr} (W : WF TS n c A env) (hh : TS.hnd = true → ∃ o vs, (e0, o) ∈ c.G ∧ o.data = .fields vs ∧ vs[2]? = some .none) : WF TS n c (A.mark (some (.ref e0))) env :=
  ⟨W.sep, W.room, W.units, W.top, W.frl, fun q e1 h1 => by cases h1; exact hh q, W.fr⟩
abbrev TopS.off (TS : TopS) : TopS := { TS with hnd := false }
theorem WF.off (W : WF TS n c A env) : WF TS.off n c A env := ⟨W.sep, W.room, W.units, ⟨W.top.nolimit, W.top.globs, W.top.kin, W.top.sysm, W.top.scr⟩, W.frl, fun q => (nomatch q), W.fr⟩
theorem WF.markOff {e0 : Addr} (W : WF TS n c A env) : WF TS.off n c (A.mark (some (.ref e0))) env := WF.mark (TS := TS.off) W.off fun q => by cases q

theorem sim_TryExcept {body : List Stmt} {b₀ : Stmt} {suite : List Stmt} {nm : String} {np hpos pos : Pos} {mb ms : PTx LF} (hf : env.frame = some env.locals) (hv : TS.gl nm = some (.type nm)) (hk : env.kindOf (Str.ofString nm) = some .globalImplicit) (hd : (Str.ofString nm == ("__debug__" : Str)) = false)
    (hexc : isSubtype (.type nm) (.type "BaseException") = pure true) (hnt : isSubtype (.type ((Manifest.find? nm).elim "type" fun x => x.metatype)) (.type "tuple") = pure false) (hsub : isSubtype (.type nm) (.type nm) = pure true)
    (hb : Sim prog w TS n A env (execs body env) FlRel mb) (hs : ∀ e0, Sim prog w TS.off n (A.mark (some (.ref e0))) env (execs (b₀ :: suite) env) FlRel ms) :
    Sim prog w TS n A env (exec (.Try body [.ExceptHandler (some (.Name (Str.ofString nm) np)) none (b₀ :: suite) hpos] [] [] pos) env) FlRel (fun Q E σ => mb Q (fun x σ' => x.name = nm ∧ ms Q noE σ') σ) := fun c σ s W h Q E q => by
  refine wpAny_Try_except (wpAny_mono (hb c σ s W h _ _ q) (fun f s₁ p => ?_) fun e s₁ p => ?_)
  · cases f with
    | next => exact wpAny_execs_nil p
    | _ => exact p
  · obtain ⟨x, σ₁, y, h₁, i₁, hx, q₁⟩ := p
    refine at_note W hf h₁ y fun h₂ r₂ y₂ i₂ => at_flight r₂ y₂ fun h₃ r₃ y₃ i₃ => ?_
    obtain ⟨ea, oe, vs, T, oT, ts, rfl, ob, e1, tb⟩ := id y₃
    have W' : WF TS.off n c (A.mark (some (.ref ea))) env := W.markOff
    refine wpAny_handleBy_builtin (b := true) hexc hnt hsub (at_glob (TS := TS.off) hv hk hd W' r₃ ⟨rfl, ⟨oe, ob.at_, by rw [ob.cls, hx]⟩, ?_⟩)
    rw [if_pos rfl]
    refine at_flight r₃ y₃ fun h₄ r₄ y₄ i₄ => wpAny_mono ((hs ea c σ₁ _ W' r₄).go (((i₁.trans i₂).trans i₃).trans i₄) q₁ (P := fun f s' => Post prog w c env FlRel s.heap Q f s') fun f v σ₅ s₅ rf h₅ i₅ j₅ q₅ => ⟨f, σ₅, rf, h₅, i₅, q₅⟩) (fun _ _ x => x) fun _ _ x => x.no.elim

/-- what is noted of an exception stands on where its objects do -/
theorem ExcTb.again {x : LX} {ea T : Addr} {oe oT : Obj} {vs ts : Array Value} {fl : Value} {h : Heap} {σ' : LS} {s' : Shared} (ob : ExcOb c σ h x ea oe vs) (e1 : vs[1]? = some (.ref T)) (tb : TbOb c σ h fl T oT ts) (r : Rel prog w (c.more [(ea, oe), (T, oT)]) env σ' s') : ExcTb c σ' s'.heap x (.ref ea) fl := by
  obtain ⟨og, g, g1, g2, _⟩ := r.guard (ea, oe) (.head _)
  obtain ⟨og', g', g1', g2', _⟩ := r.guard (T, oT) (.tail _ (.head _))
  have no : ∀ p ∈ [(ea, oe), (T, oT)], σ'.heap p.1 = none := fun p hp => by
    cases q : σ'.heap p.1 with
    | none => rfl
    | some o => exact absurd rfl ((r.dom _ o q).2.2.1 p (List.mem_append_left _ hp))
  exact ⟨ea, og, vs, T, og', ts, rfl, ⟨g, g1.trans ob.cls, ob.name, g2.trans ob.data, ⟨ob.off.1, no _ (.head _), ob.off.2.2⟩, ob.size, ob.ctx⟩, e1, ⟨g', g1'.trans tb.cls, g2'.trans tb.data, tb.fl, ⟨tb.off.1, no _ (.tail _ (.head _)), tb.off.2.2⟩⟩⟩

theorem sim_TryFinally {body : List Stmt} {f₀ : Stmt} {fs : List Stmt} {pos : Pos} {mb mf mg : PTx LF} (hf : env.frame = some env.locals)
    (hb : Sim prog w TS n A env (execs body env) FlRel mb) (h1 : Sim prog w TS n A env (execs (f₀ :: fs) env) FlRel mf) (h2 : ∀ e0, Sim prog w TS n (A.mark (some (.ref e0))) env (execs (f₀ :: fs) env) FlRel mg) :
    Sim prog w TS n A env (exec (.Try body [] [] (f₀ :: fs) pos) env) FlRel (fun Q E σ => mb (fun f σ' => mf (fun g σ'' => match g with | .next => Q f σ'' | g => Q g σ'') E σ')
      (fun x σ' => x.ctx = false ∧ mg (fun g σ'' => match g with | .next => E x σ'' | _ => False) E σ') σ) := fun c σ s W h Q E q => by
  have plain : ∀ (f : Flow) (lf : LF) (s₁ : Shared) (σ₁ : LS), FlRel s₁.heap lf f → Rel prog w c env σ₁ s₁ → Imm s.heap s₁.heap → mf (fun g σ'' => match g with | .next => Q lf σ'' | g => Q g σ'') E σ₁ →
      wpAny (model prog w) A (execs (f₀ :: fs) env) (fun g s' => match g with | .next => Post prog w c env FlRel s.heap Q f s' | g => Post prog w c env FlRel s.heap Q g s') (notedBy (model prog w) A env (cameBackBy (model prog w) A env (EPost prog w c env s.heap E))) s₁ := by
    intro f lf s₁ σ₁ rf h₁ i₁ q₁
    refine wpAny_mono ((h1 c σ₁ s₁ W h₁).go i₁ q₁ (P := fun g s' => match g with | .next => Post prog w c env FlRel s.heap Q f s' | g => Post prog w c env FlRel s.heap Q g s') fun g v σ₂ s₂ rg h₂ i₂ j₂ q₂ => ?_) (fun _ _ x => x) fun e s' p => passes (A := A) W hf e s' p
    cases rg with
    | next =>
      refine ⟨lf, σ₂, ?_, h₂, i₂, q₂⟩
      cases rf with
      | next => exact .next
      | brk => exact .brk
      | cont => exact .cont
      | ret r => exact .ret (r.imm j₂)
    | brk => exact ⟨_, σ₂, .brk, h₂, i₂, q₂⟩
    | cont => exact ⟨_, σ₂, .cont, h₂, i₂, q₂⟩
    | ret r => exact ⟨_, σ₂, .ret r, h₂, i₂, q₂⟩
  refine wpAny_Try_finally (wpAny_mono (hb c σ s W h _ _ q) (fun f s₁ p => ?_) fun e s₁ p => ?_)
  · obtain ⟨lf, σ₁, rf, h₁, i₁, q₁⟩ := p
    cases rf with
    | next => exact wpAny_execs_nil (plain _ _ s₁ σ₁ .next h₁ i₁ q₁)
    | brk => exact plain _ _ s₁ σ₁ .brk h₁ i₁ q₁
    | cont => exact plain _ _ s₁ σ₁ .cont h₁ i₁ q₁
    | ret r => exact plain _ _ s₁ σ₁ (.ret r) h₁ i₁ q₁
  · obtain ⟨x, σ₁, y, h₁, i₁, hx, q₁⟩ := p
    refine at_note W hf h₁ y fun h₂ r₂ y₂ i₂ => ⟨?_, at_note W hf r₂ y₂.at fun h₃ r₃ y₃ i₃ => at_flight (f := none) r₃ y₃ fun h₄ r₄ y₄ i₄ => ?_⟩
    · obtain ⟨ea, _, _, _, _, _, rfl, _⟩ := y₂; intro z; cases z
    · obtain ⟨ea, oe, vs, T, oT, ts, rfl, ob, e1, tb⟩ := id y₄
      obtain ⟨ne1, ne2⟩ := ob.off.ne r₄ ob.at_ ob.data
      obtain ⟨ne3, ne4⟩ := tb.off.ne r₄ tb.at_ tb.data
      have W₅ : WF TS n (c.more [(ea, oe), (T, oT)]) (A.mark (some (.ref ea))) env := by
        refine (W.more fun p hp => ?_).mark fun _ => ⟨oe, vs, .head _, ob.data, ob.ctx hx⟩
        rcases List.mem_cons.mp hp with rfl | hp
        · exact ⟨ne1, ne2⟩
        · rw [List.mem_singleton.mp hp]; exact ⟨ne3, ne4⟩
      have r₅ : Rel prog w (c.more [(ea, oe), (T, oT)]) env σ₁ { s₁ with heap := h₄ } := by
        have a := (r₄.addGuard tb.at_ tb.off.2.1)
        have b := a.addGuard (C := ea) (o := oe) ob.at_ ob.off.2.1
        exact b
      have i₄' := ((i₁.trans i₂).trans i₃).trans i₄
      refine wpAny_mono ((h2 ea _ σ₁ _ W₅ r₅).go i₄' q₁ (P := fun g s₂ => match g with | .next => wpAny (model prog w) A (PySem.passOn "try.finally" (.ref ea) env) (Post prog w c env FlRel s.heap Q) (EPost prog w c env s.heap E) s₂ | g => wpAny (model prog w) A (setFlight (.ref ea) none) (fun _ s₃ => Post prog w c env FlRel s.heap Q g s₃) (EPost prog w c env s.heap E) s₂) fun g v σ₆ s₆ rg h₆ i₆ j₆ q₆ => ?_) (fun _ _ x => x) fun e s' p => ?_
      · cases rg with
        | next =>
          have y₆ := ExcTb.again ob e1 tb h₆
          have r₆ := h₆.less
          obtain ⟨ea', oe', vs', T', oT', ts', ez, ob', e1', tb'⟩ := id y₆
          cases ez
          unfold PySem.passOn
          refine wpAny_bind (wpAny_field ob'.at_ ob'.data e1' ?_)
          rw [if_neg (show ¬ ((Value.ref T' == Value.none) = true) from by simp)]
          rw [hf]
          refine wpAny_bind (at_flight r₆ y₆ fun h₇ r₇ y₇ i₇ => wpAny_throw ⟨x, σ₆, ?_, r₇, i₆.trans i₇, q₆⟩)
          exact y₇.at
        | _ => exact q₆.elim
      · obtain ⟨x', σ₆, y₆, r₆, i₆, ex⟩ := p
        exact at_note W₅ hf r₆ y₆ fun h' r' y' im' => at_back hf r' y' fun h'' r'' y'' im'' => ⟨x', σ₆, y''.at.less, r''.less, (i₆.trans im').trans im'', ex⟩
end
end Mine
end
noncomputable section
open PySem PySem.W PyProof.Rows PySem.Calls PySem.SeqAt
set_option Elab.async false
set_option maxRecDepth 100000
set_option linter.unusedVariables false
set_option linter.unusedSimpArgs false
namespace Mine
theorem slot_li_ga : Slot "list_iterator" "__getattribute__" "object.__getattribute__" :=
  .of (owner := "object") (n := "__getattribute__") (by rw [typeLookup_type, builtinLookup_eq_fast]; kernel_rfl) (by decide +kernel) (by decide +kernel) (by decide +kernel)
    (by first | exact .inl (by decide +kernel) | exact .inr (by decide +kernel)) (by rw [isSubtype_type]; kernel_rfl)
theorem type_li_next : typeOf (.builtin "list_iterator.__next__") = pure (.type "wrapper_descriptor") := by kernel_rfl
theorem slot_wd_get : Slot "wrapper_descriptor" "__get__" "wrapper_descriptor.__get__" :=
  .of (owner := "wrapper_descriptor") (n := "__get__") (by rw [typeLookup_type, builtinLookup_eq_fast]; kernel_rfl) (by decide +kernel) (by decide +kernel) (by decide +kernel)
    (by first | exact .inl (by decide +kernel) | exact .inr (by decide +kernel)) (by rw [isSubtype_type]; kernel_rfl)
theorem wd_no_set : typeLookup (.type "wrapper_descriptor") "__set__" = pure none := by rw [typeLookup_type, builtinLookup_eq_fast]; kernel_rfl
theorem wd_no_delete : typeLookup (.type "wrapper_descriptor") "__delete__" = pure none := by rw [typeLookup_type, builtinLookup_eq_fast]; kernel_rfl
theorem entry_wd_get : entryFor table "wrapper_descriptor.__get__" = some Builtin.«wrapper_descriptor.__get__» := entryFor_of_fast (by kernel_rfl)
theorem args_wd_get (a b c : Value) : argsOk "wrapper_descriptor.__get__" ⟨[a, b, c], []⟩ := by unfold argsOk; kernel_rfl
section
variable {prog : Program} {w : World} {A : Around} {E : Value → Shared → Prop} {h : Heap} {g : Array GenState} {d : Drawn} {t : Nat} {os : OsState} {a : Addr} {o : Obj} {vs : Array Value}
theorem sub_li_owner : isSubtype (.type "list_iterator") (.type (".".intercalate ("list_iterator.__next__".cutAt '.').dropLast)) = pure true := by
  rw [show ".".intercalate ("list_iterator.__next__".cutAt '.').dropLast = "list_iterator" by decide +kernel, isSubtype_type]; kernel_rfl
theorem wd_get_run {tp : Value} {R : Result → Shared → Prop} (hx : h.get? a = some o) (hc : o.cls = .type "list_iterator") (htp : (tp == Value.none) = false)
    (hq : R (.ok (.ret (.ref h.objs.size))) ⟨h.push { cls := .type "method-wrapper", dict := none, data := .fields #[.builtin "list_iterator.__next__", .ref a] }, g, d, t, os⟩) :
    codeAny (model prog w) A (.call (.builtin "wrapper_descriptor.__get__") ⟨[.builtin "list_iterator.__next__", .ref a, tp], []⟩) R ⟨h, g, d, t, os⟩ := by
  have hT : (⟨h, g, d, t, os⟩ : Shared).TypeIs (.ref a) "list_iterator" := ⟨_, hx, hc⟩
  have hT5 : (⟨h, g, d, t, os⟩ : Shared).TypeIs (.builtin "list_iterator.__next__") "wrapper_descriptor" := type_li_next
  have f8 := sub_li_owner
  refine codeAny_call_builtin slot_wd_get.plain entry_wd_get (slot_wd_get.check _ _ _ _ _ _ _ _ hT5 (args_wd_get _ _ _) ?_)
  repeat (any_goals (first | assumption | wp_step))
theorem ga_entry {tk : Tok} {Q : Fin → Shared → Prop} (hx : h.get? a = some { cls := .type "list_iterator", data := .fields vs })
    (hq : Q (.done (.ret (.ref h.objs.size))) ⟨h.push { cls := .type "method-wrapper", dict := none, data := .fields #[.builtin "list_iterator.__next__", .ref a] }, g, d, t, os⟩) :
    wpAny (model prog w) A (Builtin.«object.__getattribute__» ⟨[.ref a, .str "__next__" tk], []⟩) Q E ⟨h, g, d, t, os⟩ := by
  have hT : (⟨h, g, d, t, os⟩ : Shared).TypeIs (.ref a) "list_iterator" := ⟨_, hx, rfl⟩
  have hT5 : (⟨h, g, d, t, os⟩ : Shared).TypeIs (.builtin "list_iterator.__next__") "wrapper_descriptor" := type_li_next
  have f4 := slot_listiter_next.lookup
  have f5 := type_li_next
  have f6 := slot_wd_get.lookup
  have f7 := wd_no_set
  have f8 := wd_no_delete
  repeat (any_goals (first | assumption | wp_step))
  refine wd_get_run hx rfl rfl ?_
  repeat (any_goals (first | assumption | wp_step))
theorem ga_call {tk : Tok} {R : Result → Shared → Prop} (hx : h.get? a = some { cls := .type "list_iterator", data := .fields vs })
    (hq : R (.ok (.ret (.ref h.objs.size))) ⟨h.push { cls := .type "method-wrapper", dict := none, data := .fields #[.builtin "list_iterator.__next__", .ref a] }, g, d, t, os⟩) :
    codeAny (model prog w) A (.call (.builtin "object.__getattribute__") ⟨[.ref a, .str "__next__" tk], []⟩) R ⟨h, g, d, t, os⟩ :=
  codeAny_call_builtin slot_li_ga.plain F.entry_object_getattribute (slot_li_ga.check _ _ _ _ _ _ _ _ (show (⟨h, g, d, t, os⟩ : Shared).TypeIs (.ref a) "list_iterator" from ⟨_, hx, rfl⟩) (F.args_object_getattribute_2 _ _) (ga_entry hx hq))
theorem getAttr_next {Q : Value → Shared → Prop} (hx : h.get? a = some { cls := .type "list_iterator", data := .fields vs })
    (hq : Q (.ref h.objs.size) ⟨h.push { cls := .type "method-wrapper", dict := none, data := .fields #[.builtin "list_iterator.__next__", .ref a] }, g, d, t + 1, os⟩) :
    wpAny (model prog w) A (getAttr (.ref a) "__next__" true) Q E ⟨h, g, d, t, os⟩ := by
  have hT : ∀ tk', (⟨h, g, d, tk', os⟩ : Shared).TypeIs (.ref a) "list_iterator" := fun _ => ⟨_, hx, rfl⟩
  have f2 := slot_li_ga.lookup
  have f3 := slot_li_ga.bind (.ref a)
  unfold getAttr getAttrBy
  repeat (any_goals (first | assumption | exact hT _ | wp_step))
  refine ga_call hx ?_
  repeat (any_goals (first | assumption | wp_step))
end

def LS.del (σ : LS) (a : Nat) : LS := { σ with heap := fun b => if b = a then none else σ.heap b }
def pnextc : LV → PTx LV
  | .nxt it => fun Q E σ => ∃ l i xs, σ.heap it = some (.iter l i) ∧ σ.heap l = some (.list xs) ∧ (match xs[i]? with | some v => Q v (σ.put it (.iter l (i + 1))) | none => E ⟨"StopIteration", false⟩ (σ.del it))
  | _ => pfail
def pnextof : LV → PTx LV
  | .ref it => fun Q _ σ => ∃ l i, σ.heap it = some (.iter l i) ∧ Q (.nxt it) σ
  | _ => pfail
section
variable {prog : Program} {w : World} {TS : TopS} {c : Cx} {A : Around} {env : Env} {σ : LS} {s : Shared} {n : Nat}
theorem Rel.del (h : Rel prog w c env σ s) (a : Nat) : Rel prog w c env (σ.del a) s :=
  ⟨h.keep, h.guard, h.ns, h.cell, h.cin, fun b o e => h.obj b o (by simp only [LS.del] at e; split at e; cases e; exact e), fun b o e => h.dom b o (by simp only [LS.del] at e; split at e; cases e; exact e), h.gens, h.os, h.drawn⟩
theorem sim_nextof : Sim1 prog w TS n A env (fun v => getAttr v (Str.ofString "__next__") true) VRel pnextof := fun c σ s a x W h ra Q E q => by
  cases a with
  | ref a =>
    obtain ⟨l, i, e, q⟩ := q
    cases ra.ref_inv
    have ho : s.heap.get? a = some { cls := .type "list_iterator", data := .fields #[.ref l, .int i 0] } := h.obj a _ e
    obtain ⟨hp, g, d, tk, os⟩ := s
    refine getAttr_next ho ?_
    have k : ∀ b o, hp.get? b = some o → (hp.push { cls := .type "method-wrapper", dict := none, data := .fields #[.builtin "list_iterator.__next__", .ref a] }).get? b = some o := fun b o e => Heap.get?_push_of_some _ e
    exact ⟨.nxt a, σ, .nxt (Heap.get?_push_size _ rfl), h.keeps (tk := tk + 1) k, Imm.of_keeps k, q⟩
  | _ => exact q.elim
theorem check_next (a : Addr) : checkBoundCall "list_iterator.__next__" ⟨[.ref a], []⟩ = pure () := by first | kernel_rfl | rfl
theorem quiet_next (a : Addr) : (Code.builtin "list_iterator.__next__" ⟨[.ref a], []⟩).quiet = true := plainId_quiet slot_listiter_next.plain _
theorem nxt_inv {h : Heap} {it : Nat} {v : Value} (r : VRel h (.nxt it) v) : ∃ q, v = .ref q ∧ h.get? q = some (mwObj it) := by cases r with | nxt e => exact ⟨_, rfl, e⟩
theorem callWith_mw {M : Model} {pos : Pos} {u it : Addr} {Q : Value → Shared → Prop} {E : Value → Shared → Prop} (ho : s.heap.get? u = some (mwObj it)) (h : wpAny M A (call (.ref u) []) Q E s) : wpAny M A (callWith pos (.ref u) [] (argT pos [] env) []) Q E s := by
  unfold callWith
  refine wpAny_bind (wpAny_holding (evalArgs_go rfl (spliced_nil (wpAny_bind (wpAny_standAt ?_)))))
  rw [show argT pos ([] : List Expr) env = [] from rfl]
  simp only [List.any_nil, Bool.or_false]
  refine wpAny_bind (m := keeperOf (.ref u)) ?_
  unfold keeperOf
  refine wpAny_bind (wpAny_load ho ?_)
  simp only [mwObj, show (Value.type "method-wrapper" != Value.type "method") = true by decide, show (Value.type "method-wrapper" == Value.type "builtin_function_or_method" || Value.type "method-wrapper" == Value.type "method-wrapper") = true by decide, if_true]
  refine wpAny_pure ?_
  exact wpAny_bind (wpAny_mono h (fun r s₂ hr => wpAny_bind (wpAny_holding (wpAny_point (wpAny_pure hr)))) fun _ _ x => x)
theorem sim_nextc (hh : A.handled = none) : Sim1 prog w TS n A env (fun v => call v []) VRel pnextc := fun c σ s a x W h ra Q E q => by
  cases a with
  | nxt it =>
    obtain ⟨l, i, xs, e1, e2, q⟩ := q
    obtain ⟨u, rfl, hu⟩ := nxt_inv ra
    have ho : s.heap.get? it = some { cls := .type "list_iterator", data := .fields #[.ref l, .int i 0] } := h.obj it _ e1
    obtain ⟨hz, items, n1, l1, r1⟩ := h.list_at e2
    refine wpAny_call (codeAny_of_tree ?_)
    show wpAny _ A.in1 (callAny (.ref u) ⟨[], []⟩) _ _ s
    simp only [callAny]
    refine wpAny_bind (wpAny_load hu ?_)
    simp only [mwObj, show (Value.type "method-wrapper" == Value.type "method" || Value.type "method-wrapper" == Value.type "builtin_function_or_method" || Value.type "method-wrapper" == Value.type "method-wrapper") = true by decide, if_true]
    show wpAny _ A.in1 (if (Value.type "method-wrapper" != Value.type "method") = true then _ else _) _ _ s
    rw [if_pos (by decide)]
    refine wpAny_bind (wpAny_of_eq (check_next it) (wpAny_pure ⟨quiet_next it, codeAny_builtin entry_listiter_next ?_⟩))
    rw [Around.under_plainId slot_listiter_next.plain _]
    show wpAny _ _ (field (.ref it) 0 >>= _) _ _ s
    refine wpAny_bind (wpAny_field ho rfl (x := .ref l) rfl ?_)
    show wpAny _ _ (if (Value.ref l == Value.none) = true then _ else _) _ _ s
    rw [if_neg (show ¬ ((Value.ref l == Value.none) = true) from Bool.false_ne_true)]
    show wpAny _ _ (field (.ref it) 1 >>= _) _ _ s
    refine wpAny_bind (wpAny_field ho rfl (x := .int i 0) rfl ?_)
    show wpAny _ _ (seqItems? (.ref l) >>= _) _ _ s
    refine wpAny_bind (wpAny_seqItems l1 rfl ?_)
    simp only [Int.toNat_natCast]
    split at q
    · rename_i v hx
      obtain ⟨x, h1, h2⟩ := r1.getA hx
      rw [h1]
      refine wpAny_bind (wpAny_setField ho rfl (by simp) (wpAny_pure ?_))
      have ke := (Heap.SameBut.update s.heap it (Obj.mapFields (·.setIfInBounds 1 (rawInt ((i : Int) + 1))))).extBut
      have im := h.update_imm e1 ke
      refine ⟨v, _, h2.imm im, h.update (tk := s.toks) (o' := .iter l (i + 1)) e1 ke ?_, im, q⟩
      have := Heap.get?_update_self (Obj.mapFields (·.setIfInBounds 1 (rawInt ((i : Int) + 1)))) ho rfl
      exact this
    · rename_i hx
      have hge := List.getElem?_eq_none_iff.mp hx
      have h1 : items[i]? = none := Array.getElem?_eq_none (by rw [r1.sizeA]; exact hge)
      rw [h1]
      refine wpAny_bind (wpAny_rule (wpAny_bind (wpAny_setField ho rfl (by simp) ?_)))
      have ke := (Heap.SameBut.update s.heap it (Obj.mapFields (·.setIfInBounds 0 Value.none))).extBut
      have im := h.update_imm e1 ke
      obtain ⟨d1, d2, d3, d4⟩ := h.dom it _ e1
      have ni : ∀ o, s.heap.get? it = some o → immObj o = false := fun o e => by rw [ho] at e; cases e; rfl
      have h₂ := (h.del it).extBut (tk := s.toks) ke ni d1 d2 d3 d4 (by simp [LS.del])
      show wpAny _ _ (newExc (.type "StopIteration") [] >>= _) _ _ _
      refine wpAny_bind ?_
      simp only [newExc, newTuple]
      refine wpAny_bind (wpAny_newObj_type ?_ (by size_fits))
      refine wpAny_bind (m := firstArgMember _ _) (wpAny_of_eq (a := Value.none) (by first | rfl | (simp only [firstArgMember]; rfl)) ?_)
      refine wpAny_newObj_type ?_ (by size_fits)
      simp only [raiseNew]
      refine wpAny_bind (wpAny_handled ?_)
      rw [show A.in1.handled = none from hh]
      refine wpAny_bind (wpAny_pure (wpAny_throw ?_))
      have N : Heap.NewExc (s.heap.update it (Obj.mapFields (·.setIfInBounds 0 Value.none))) (((s.heap.update it (Obj.mapFields (·.setIfInBounds 0 Value.none))).push { cls := .type "tuple", dict := none, data := .seq ([] : List Value).toArray }).push { cls := .type "StopIteration", dict := none, data := .fields (#[.ref (s.heap.update it (Obj.mapFields (·.setIfInBounds 0 Value.none))).objs.size, .none, .none, .none, .bool false, .none] ++ ownMembersOf (.type "StopIteration") []) })
          ((s.heap.update it (Obj.mapFields (·.setIfInBounds 0 Value.none))).push { cls := .type "tuple", dict := none, data := .seq ([] : List Value).toArray }).objs.size "StopIteration" :=
        ⟨fun b o hb => Heap.get?_push_of_some _ (Heap.get?_push_of_some _ hb), Heap.get?_none_of_le (by simp), _, .ref (s.heap.update it (Obj.mapFields (·.setIfInBounds 0 Value.none))).objs.size, Heap.get?_push_size _ rfl, rfl, by simp [ownMembersOf]⟩
      obtain ⟨z1, z2, z3⟩ := newExc_at (tk := s.toks) h₂ N (.inr rfl)
      exact ⟨_, _, z1, z2, im.trans z3, q⟩
  | _ => exact q.elim

theorem sim_CallV {e : Expr} {pos : Pos} {m : PTx LV} (hh : A.handled = none) (h1 : Sim prog w TS n A env (eval e env) VRel m)
    (he : eval (.Call e [] [] pos) env = (do callWith pos (← eval e env) [] (backTo pos (starEach [] env)) (backToKw pos (keywordEach [] env)))) :
    Sim prog w TS n A env (eval (.Call e [] [] pos) env) VRel (pbind m pnextc) := fun c σ s W h Q E q => by
  rw [he]
  refine wpAny_bind ((h1 c σ s W h).go (Imm.refl _) q fun a x σ₁ s₁ ra h₁ i₁ j₁ q₁ => ?_)
  cases a with
  | nxt it =>
    obtain ⟨u, rfl, hu⟩ := nxt_inv ra
    exact callWith_mw hu ((sim_nextc hh c σ₁ s₁ (.nxt it) (.ref u) W h₁ ra).fin i₁ q₁)
  | _ => exact q₁.elim
end
end Mine
end
noncomputable section
open PySem PySem.W PyProof.Rows PySem.Calls PySem.SeqAt
set_option Elab.async false
set_option linter.unusedVariables false
namespace Mine
def fnAt (p : Program) (i : Nat) : Stmt := p.main.body.getD i (.Pass ⟨0, 0, 0, 0⟩)
def inAt : Stmt → Nat → Stmt
  | .ClassDef _ _ _ body _ _ _ _ _ _ _, j => body.getD j (.Pass ⟨0, 0, 0, 0⟩)
  | s, _ => s
def fnBody : Stmt → List Stmt
  | .FunctionDef _ _ body _ _ _ _ _ _ _ => body
  | _ => []
def fnScope : Stmt → Scope
  | .FunctionDef _ _ _ _ _ _ scope _ _ _ => scope
  | _ => { kind := .function, names := [], isGenerator := false, isCoroutine := false }
def fnParams : Stmt → Arguments
  | .FunctionDef _ args _ _ _ _ _ _ _ _ => args
  | _ => { posonlyargs := [], args := [], vararg := none, kwonlyargs := [], kw_defaults := [], kwarg := none, defaults := [] }

set_option genInjectivity false in
set_option genSizeOf false in
structure Ad where
  (heappush heappop heapify siftdown siftup sld CT CN initT initN get add prep ready active done cyc dNode dNp dSucc joined read following switched lparents marked listed reached due : Addr)
  (tOut tDone : Tok)

/-- a slot of the node class -/
structure SlotF (K : Frag) (C p i : Nat) (x : String) : Prop where
  f : findIn K (.ref C) (Str.ofString x) = some (some (.ref p))
  g : specialIn K (.ref p) "__get__" = some (some (.builtin "member_descriptor.__get__"))
  t : takesIn K (.ref p) = some true
  s : slotIn K p C = some i
  k : takerIn K C (Str.ofString x) = some (some (.ref p))
  y : typeIn K (.ref p) = some (.type "member_descriptor")
structure MethF (K : Frag) (C fn : Nat) (x : String) : Prop where
  f : findIn K (.ref C) (Str.ofString x) = some (some (.ref fn))
  n : isFn K (.ref fn) = true
  k : keepIn K (.ref fn) = true
  g : specialIn K (.ref fn) "__get__" = some (some (.builtin "function.__get__"))
  t : takesIn K (.ref fn) = some false
  y : typeIn K (.ref fn) = some (.type "function")
  i : fnIn K fn = true
/-- a def that stands written out as its text says -/
def FnF (TS : TopS) (f : Addr) (st : Stmt) : Prop := ∃ o fd, FnIs TS f o fd (fnScope st) (fnBody st) ∧ fd.params = fnParams st ∧ fd.defaults = .none

/-- the same, with what its arguments are bound to -/
def FnB (TS : TopS) (f : Addr) (st : Stmt) (ns : List String) : Prop := ∃ o fd, FnIs TS f o fd (fnScope st) (fnBody st) ∧ ∀ (s : Shared) (xs : List Value), TS.K.In s.heap → xs.length = ns.length → BindsTo s fd ⟨xs, []⟩ ((ns.map Str.ofString).zip xs)
structure Facts (TS : TopS) (ad : Ad) : Prop where
  gl_len : TS.gl "len" = some (.builtin "len")
  gl_sorted : TS.gl "sorted" = some (.builtin "sorted")
  gl_sum : TS.gl "sum" = some (.builtin "sum")
  gl_list : TS.gl "list" = some (.type "list")
  gl_tuple : TS.gl "tuple" = some (.type "tuple")
  gl_set : TS.gl "set" = some (.type "set")
  gl_int : TS.gl "int" = some (.type "int")
  gl_range : TS.gl "range" = some (.type "range")
  gl_iter : TS.gl "iter" = some (.builtin "iter")
  gl_bool : TS.gl "bool" = some (.type "bool")
  gl_enumerate : TS.gl "enumerate" = some (.type "enumerate")
  gl_reversed : TS.gl "reversed" = some (.type "reversed")
  gl_IndexError : TS.gl "IndexError" = some (.type "IndexError")
  gl_StopIteration : TS.gl "StopIteration" = some (.type "StopIteration")
  gl_NODE_OUT : TS.gl "_NODE_OUT" = some (.int (-1) ad.tOut)
  gl_NODE_DONE : TS.gl "_NODE_DONE" = some (.int (-2) ad.tDone)
  hon : TS.hnd = true
  gl_heappush : TS.gl "heappush" = some (.ref ad.heappush)
  gl_heappop : TS.gl "heappop" = some (.ref ad.heappop)
  gl_heapify : TS.gl "heapify" = some (.ref ad.heapify)
  gl_siftdown : TS.gl "_siftdown" = some (.ref ad.siftdown)
  gl_siftup : TS.gl "_siftup" = some (.ref ad.siftup)
  gl_sorted_list_difference : TS.gl "sorted_list_difference" = some (.ref ad.sld)
  gl_law_joined : TS.gl "_law_joined" = some (.ref ad.joined)
  gl_CT : TS.gl "TopologicalSorter" = some (.ref ad.CT)
  gl_CN : TS.gl "_NodeInfo" = some (.ref ad.CN)
  kp_heappush : keepIn TS.K (.ref ad.heappush) = true
  kp_heappop : keepIn TS.K (.ref ad.heappop) = true
  kp_heapify : keepIn TS.K (.ref ad.heapify) = true
  kp_siftdown : keepIn TS.K (.ref ad.siftdown) = true
  kp_siftup : keepIn TS.K (.ref ad.siftup) = true
  kp_sorted_list_difference : keepIn TS.K (.ref ad.sld) = true
  kp_law_joined : keepIn TS.K (.ref ad.joined) = true
  kp_CT : keepIn TS.K (.ref ad.CT) = true
  kp_CN : keepIn TS.K (.ref ad.CN) = true
  pgT : ∀ x, plainGet TS.K ad.CT x = true
  pgN : ∀ x, plainGet TS.K ad.CN x = true
  hdT : hasDictIn TS.K ad.CT = true
  clN : isClsIn TS.K ad.CN = true
  at_node2info : findIn TS.K (.ref ad.CT) (Str.ofString "_node2info") = some none
  at_ready_nodes : findIn TS.K (.ref ad.CT) (Str.ofString "_ready_nodes") = some none
  at_npassedout : findIn TS.K (.ref ad.CT) (Str.ofString "_npassedout") = some none
  at_nfinished : findIn TS.K (.ref ad.CT) (Str.ofString "_nfinished") = some none
  stT : findIn TS.K (.ref ad.CT) "__setattr__" = some (some (.builtin "object.__setattr__"))
  stN : findIn TS.K (.ref ad.CN) "__setattr__" = some (some (.builtin "object.__setattr__"))
  poT : plainOver TS.K ad.CT = true
  poN : plainOver TS.K ad.CN = true
  snode : SlotF TS.K ad.CN ad.dNode 0 "node"
  snpredecessors : SlotF TS.K ad.CN ad.dNp 1 "npredecessors"
  ssuccessors : SlotF TS.K ad.CN ad.dSucc 2 "successors"
  m_get_nodeinfo : MethF TS.K ad.CT ad.get "_get_nodeinfo"
  m_add : MethF TS.K ad.CT ad.add "add"
  m_prepare : MethF TS.K ad.CT ad.prep "prepare"
  m_get_ready : MethF TS.K ad.CT ad.ready "get_ready"
  m_is_active : MethF TS.K ad.CT ad.active "is_active"
  m_done : MethF TS.K ad.CT ad.done "done"
  m_find_cycle : MethF TS.K ad.CT ad.cyc "_find_cycle"
  mkT : makesIn TS.K ad.CT = true
  mkN : makesIn TS.K ad.CN = true
  inT : findIn TS.K (.ref ad.CT) "__init__" = some (some (.ref ad.initT))
  inN : findIn TS.K (.ref ad.CN) "__init__" = some (some (.ref ad.initN))
  tiT : typeIn TS.K (.ref ad.initT) = some (.type "function")
  tiN : typeIn TS.K (.ref ad.initN) = some (.type "function")

abbrev ptupT (ms : List (LV → PTx Unit)) : LV → PTx Unit := fun v => fun Q E σ => (∃ vs, v = .tup vs ∧ vs.length = ms.length) ∧ punpack ms v Q E σ
theorem taker_none {K : Frag} {C : Nat} {x : Str} (h : findIn K (.ref C) x = some none) : takerIn K C x = some none := by unfold takerIn; rw [h]; rfl
theorem ex_IndexError : isSubtype (.type "IndexError") (.type "BaseException") = pure true ∧ isSubtype (.type ((Manifest.find? "IndexError").elim "type" fun x => x.metatype)) (.type "tuple") = pure false ∧ isSubtype (.type "IndexError") (.type "IndexError") = pure true :=
  ⟨by rw [isSubtype_type]; kernel_rfl, by rw [isSubtype_type]; kernel_rfl, by rw [isSubtype_type]; kernel_rfl⟩
theorem ex_StopIteration : isSubtype (.type "StopIteration") (.type "BaseException") = pure true ∧ isSubtype (.type ((Manifest.find? "StopIteration").elim "type" fun x => x.metatype)) (.type "tuple") = pure false ∧ isSubtype (.type "StopIteration") (.type "StopIteration") = pure true :=
  ⟨by rw [isSubtype_type]; kernel_rfl, by rw [isSubtype_type]; kernel_rfl, by rw [isSubtype_type]; kernel_rfl⟩
section
variable {prog : Program} {w : World} {TS : TopS} {c : Cx} {A : Around} {env : Env} {σ : LS} {s : Shared} {n : Nat}
theorem names_okP {scope : Scope} {names : List String} (hk : (names.all fun x => scope.names.lookup (Str.ofString x) == some .local || scope.names.lookup (Str.ofString x) == some .cell) = true) :
    ∀ as bs, bndP names as = some bs → ∀ b ∈ bs, scope.names.lookup (Str.ofString b.1) = some .local ∨ scope.names.lookup (Str.ofString b.1) = some .cell := fun as bs hb b hbm => by
  unfold bndP at hb
  split at hb
  · cases hb
    have := List.all_eq_true.mp hk b.1 (List.of_mem_zip (a := b.1) (b := b.2) hbm).1
    simpa using this
  · cases hb
theorem names_okV {scope : Scope} {names : List String} {va : String} (hk : ((va :: names).all fun x => scope.names.lookup (Str.ofString x) == some .local || scope.names.lookup (Str.ofString x) == some .cell) = true) :
    ∀ as bs, bndV names va as = some bs → ∀ b ∈ bs, scope.names.lookup (Str.ofString b.1) = some .local ∨ scope.names.lookup (Str.ofString b.1) = some .cell := fun as bs hb b hbm => by
  unfold bndV at hb
  split at hb
  · cases hb
    have hm : b.1 ∈ va :: names := by
      rcases List.mem_append.mp hbm with q | q
      · exact .tail _ (List.of_mem_zip (a := b.1) (b := b.2) q).1
      · rw [List.mem_singleton.mp q]; exact .head _
    have := List.all_eq_true.mp hk b.1 hm
    simpa using this
  · cases hb
theorem sim_fail {t : Sem Flow} : Sim prog w TS n A env t FlRel pfail := fun _ _ _ _ _ _ _ q => q.elim
theorem storeC {x : String} (h : env.kindOf (Str.ofString x) = some .cell) (h2 : ∃ a, env.cells.lookup (Str.ofString x) = some a ∧ env.locals < a) : StoreOk env x := .inr ⟨h, h2⟩

def pscript (a : Addr) (is : List Int) : PTx LV := fun Q _ σ => σ.loc "script" = some (.raw (.ref a)) ∧ ∀ d, σ.heap d = none → Q (.ref d) (σ.put d (.list ((is.take 12).map .int)))
theorem sim_script {a : Addr} {is : List Int} {np p ip pos : Pos} {k : Nat} (hs : TS.scr = some (a, is)) (hk : nameOk env "script" = true) :
    Sim prog w TS n A env (eval (.Subscript (.Name (Str.ofString "script") np) (.Slice none (some (.Constant (.int 12) k ip)) none p) pos) env) VRel (pscript a is) := fun c σ s W h Q E q => by
  obtain ⟨q0, q⟩ := q
  refine wpAny_Subscript_Slice slot_list_getitem.lookup ((sim_Name hk c σ s W h).go (Imm.refl _) (E := E) (K := fun v σ' => σ' = σ ∧ v = .raw (.ref a)) ⟨_, q0, rfl, rfl⟩ fun b x σ₁ s₁ rb h₁ i₁ j₁ q₁ => ?_) (fun _ _ => rfl)
  obtain ⟨rfl, rfl⟩ := q₁
  cases rb
  obtain ⟨items, l0, hi, hz⟩ := W.top.scr a is hs
  refine wpAny_Slice (wpAny_pure ((sim_int (i := 12) (k := k) (pos := ip) c σ₁ s₁ W h₁).go i₁ (E := E) (K := fun v σ' => σ' = σ₁ ∧ v = .int 12) ⟨rfl, rfl⟩ fun b y σ₂ s₂ rb h₂ i₂ j₂ q₂ => wpAny_pure ?_))
  obtain ⟨rfl, rfl⟩ := q₂
  obtain ⟨t, rfl⟩ := rb.int_inv
  obtain ⟨h₃, i₃⟩ := slice_push h₂ .none (.int 12 t) .none
  have l1 : Heap.IsList _ a items := let ⟨o, a1, a2⟩ := l0; ⟨o, h₃.keep _ _ a1, a2⟩
  refine ⟨l1.typeIs, wpAny_getItem_list_slice l1 (Heap.IsSliceOf.new ..) .none (.int _ _) .none (by simp) ?_ hz⟩
  have e9 : slicePick items none (some 12) none = (items.toList.take 12).toArray := slicePick_upto' items 12
  rw [e9]
  have k : ∀ b o, (s₂.heap.push { cls := .type "slice", data := .fields #[.none, .int 12 t, .none] }).get? b = some o → ((s₂.heap.push { cls := .type "slice", data := .fields #[.none, .int 12 t, .none] }).push { cls := .type "list", data := .seq (items.toList.take 12).toArray }).get? b = some o := fun b o e => Heap.get?_push_of_some _ e
  have hv : VRels (s₂.heap.push { cls := .type "slice", data := .fields #[.none, .int 12 t, .none] }) ((is.take 12).map .int) (items.toList.take 12) := by
    have := (vrels_ints (h := s₂.heap.push { cls := .type "slice", data := .fields #[.none, .int 12 t, .none] }) hi).take 12
    rwa [List.map_take] 
  have hc : ((is.take 12).map LV.int).length ≤ cap := by
    rw [List.length_map, List.length_take]
    have : 12 ≤ cap := by decide
    omega
  have h₄ := h₃.alloc (tk := s₂.toks) (o := .list ((is.take 12).map .int)) k ⟨hc, _, 0, Heap.get?_push_size _ rfl, by simpa using hv.imm (Imm.of_keeps k)⟩
  exact ⟨_, _, .ref _, h₄, (i₂.trans i₃).trans (Imm.of_keeps k), q _ h₃.fresh_obj⟩
end
end Mine
end
noncomputable section
open PySem PySem.W PyProof.Rows PySem.Calls PySem.SeqAt
set_option Elab.async false
set_option linter.unusedVariables false
set_option linter.unusedSimpArgs false
set_option maxRecDepth 100000
namespace Mine
/-- lists of lists of ints compared -/
def pleqD : LV → LV → PTx Bool
  | .ref a, .ref b => fun Q _ σ => ∃ L M : List (Nat × List Int), σ.heap a = some (.list (L.map fun p => .ref p.1)) ∧ σ.heap b = some (.list (M.map fun p => .ref p.1)) ∧ (∀ p ∈ L, σ.heap p.1 = some (.list (p.2.map .int))) ∧ (∀ p ∈ M, σ.heap p.1 = some (.list (p.2.map .int))) ∧ Q (L.map (·.2) == M.map (·.2)) σ
  | _, _ => pfail
/-- pairs of a dict display, one behind another; their stores -/
def ppairsL : List (PTx LV × PTx LV) → PTx (List (LV × LV))
  | [] => pret []
  | (k, v) :: r => pbind k fun a => pbind v fun b => pbind (ppairsL r) fun l => pret ((a, b) :: l)
def pstoreL (D : LV) : List (LV × LV) → PTx Unit
  | [] => pret ()
  | (k, v) :: r => pbind (pdset D k v) fun _ => pstoreL D r
def pdisp (ps : List (PTx LV × PTx LV)) : PTx LV := fun Q E σ => ∀ D, σ.heap D = none → ppairsL ps (fun l σ' => pstoreL (.ref D) l (fun _ σ'' => Q (.ref D) σ'') E σ') E (σ.put D (.dict [] 0))
def RP (h : Heap) (l : List (LV × LV)) (vs : List (Value × Value)) : Prop := VRels h (l.map (·.1)) (vs.map (·.1)) ∧ VRels h (l.map (·.2)) (vs.map (·.2))
section
variable {prog : Program} {w : World} {TS : TopS} {c : Cx} {A : Around} {env : Env} {σ : LS} {s : Shared} {n : Nat}
inductive SimPs (prog : Program) (w : World) (TS : TopS) (n : Nat) (A : Around) (env : Env) : List (Option Expr) → List Expr → List (PTx LV × PTx LV) → Prop
  | nil : SimPs prog w TS n A env [] [] []
  | cons {k v : Expr} {ks : List (Option Expr)} {vs : List Expr} {mk mv : PTx LV} {ps : List (PTx LV × PTx LV)} : Sim prog w TS n A env (eval k env) VRel mk → Sim prog w TS n A env (eval v env) VRel mv → SimPs prog w TS n A env ks vs ps → SimPs prog w TS n A env (some k :: ks) (v :: vs) ((mk, mv) :: ps)
theorem sim_pairsL {pos : Pos} {ks : List (Option Expr)} {vs : List Expr} {ps : List (PTx LV × PTx LV)} (h : SimPs prog w TS n A env ks vs ps) : Sim prog w TS n A env (evalPairs (pairTrees ks vs env pos)) RP (ppairsL ps) := by
  induction h with
  | nil => exact fun c σ s W h Q E q => pairTrees_nil_walk ⟨[], σ, ⟨.nil, .nil⟩, h, Imm.refl _, q⟩
  | cons hk hv hr ih =>
    intro c σ s W h Q E q
    refine pairTrees_cons_walk ((hk c σ s W h).go (Imm.refl _) q fun a x σ₁ s₁ ra h₁ i₁ j₁ q₁ => ?_)
    refine (hv c σ₁ s₁ W h₁).go i₁ q₁ fun b y σ₂ s₂ rb h₂ i₂ j₂ q₂ => ?_
    refine (ih c σ₂ s₂ W h₂).go i₂ q₂ fun l zs σ₃ s₃ rl h₃ i₃ j₃ q₃ => ?_
    exact ⟨(a, b) :: l, σ₃, ⟨.cons ((ra.imm j₂).imm j₃) rl.1, .cons (rb.imm j₃) rl.2⟩, h₃, i₃, q₃⟩
theorem pstoreL_inv {D : Nat} {a b : LV} {l : List (LV × LV)} {Q : Unit → LS → Prop} {E : LX → LS → Prop} {σ : LS} (q : pstoreL (.ref D) ((a, b) :: l) Q E σ) : ∃ k es ep, a = .int k ∧ σ.heap D = some (.dict es ep) ∧ es.length + 1 ≤ cap ∧ ∀ ep', pstoreL (.ref D) l Q E (σ.put D (.dict (dput es k b) ep')) := by
  cases a with
  | int k => obtain ⟨es, ep, e, hk, q⟩ := q; exact ⟨k, es, ep, rfl, e, hk, q⟩
  | _ => exact q.elim
theorem store_go {D : Nat} {l : List (LV × LV)} {vs : List (Value × Value)} {σ : LS} {s : Shared} {Q : Unit → LS → Prop} {E : LX → LS → Prop} {h0 : Heap} {P : PUnit → Shared → Prop} {EE : Value → Shared → Prop} (r : RP s.heap l vs) (h : Rel prog w c env σ s) (i : Imm h0 s.heap) (q : pstoreL (.ref D) l Q E σ)
    (k : ∀ σ' s', Rel prog w c env σ' s' → Imm h0 s'.heap → Q () σ' → P PUnit.unit s') : wpAny (model prog w) A (storeAll D vs) P EE s := by
  unfold storeAll
  induction l generalizing vs σ s with
  | nil =>
    cases vs with
    | nil => rw [List.forIn_nil]; exact wpAny_pure (k σ s h i q)
    | cons v vs => have := r.1.length; cases this
  | cons ab l ih =>
    cases vs with
    | nil => have := r.1.length; cases this
    | cons v vs =>
      obtain ⟨x, vs1, e1, ra, r1⟩ := r.1.cons_inv
      obtain ⟨y, vs2, e2, rb, r2⟩ := r.2.cons_inv
      cases e1; cases e2
      obtain ⟨kk, es, ep, e0, e, hk, q⟩ := pstoreL_inv (a := ab.1) (b := ab.2) q
      obtain ⟨t, ht⟩ := (show VRel s.heap (.int kk) v.1 from e0 ▸ ra).int_inv
      obtain ⟨hz, kvs, d1, d2⟩ := h.dict_at e
      have hl := d2.length
      have := cap_le
      rw [List.forIn_cons, ht]
      refine wpAny_bind (wpAny_bind ?_)
      refine wpAny_dictSet_pairs (int_is _ _) d1 (fun h' hd hs => ?_) (by omega)
      have im := h.update_imm e hs.extBut
      obtain ⟨ep', hd'⟩ := hd.dictAt
      refine wpAny_pure ?_
      exact ih (s := { s with heap := h', toks := _ }) ⟨r1.imm im, r2.imm im⟩ (h.update (o' := .dict _ ep') e hs.extBut ⟨Nat.le_trans (dput_length ..) hk, _, hd', (d2.put rb).imm im⟩) (i.trans im) (q ep')
theorem sim_DictD {pos : Pos} {ks : List (Option Expr)} {vs : List Expr} {ps : List (PTx LV × PTx LV)} (hp : SimPs prog w TS n A env ks vs ps) (hall : ks.all (·.isSome) = true) (hl : ks.length = vs.length) (h0 : ks ≠ []) (hlen : ks.length ≤ 15) : Sim prog w TS n A env (eval (.Dict ks vs pos) env) VRel (pdisp ps) := fun c σ s W h Q E q => by
  have k : ∀ b o, s.heap.get? b = some o → (s.heap.push { cls := .type "dict", data := .dict #[] }).get? b = some o := fun b o e => Heap.get?_push_of_some _ e
  have h₁ := h.alloc (tk := s.toks) (o := .dict [] 0) k ⟨Nat.zero_le _, [], ⟨_, #[], Heap.get?_push_size _ rfl, ⟨rfl, rfl, rfl⟩, rfl, fun _ he => by simp at he, Pairs.nil, List.nodup_nil⟩, .nil⟩
  refine wpAny_Dict_any hall hl h0 hlen ?_
  refine (sim_pairsL hp c _ _ W h₁).go (Imm.of_keeps k) (q _ h.fresh_obj) fun l zs σ₃ s₃ rl h₃ i₃ j₃ q₃ => ?_
  exact store_go rl h₃ i₃ q₃ fun σ' s' h' i' q' => ⟨_, σ', .ref _, h', i', q'⟩

theorem all_range {α : Type} [BEq α] [LawfulBEq α] {is js : List α} (hl : is.length = js.length) : (List.range is.length).all (fun j => is[j]? == js[j]?) = (is == js) := by
  rw [Bool.eq_iff_iff]
  simp only [List.all_eq_true, List.mem_range, beq_iff_eq]
  constructor
  · intro h
    apply List.ext_getElem?
    intro i
    by_cases hi : i < is.length
    · exact h i hi
    · rw [List.getElem?_eq_none (by omega), List.getElem?_eq_none (by omega)]
  · rintro rfl i hi; rfl
theorem refs_at {h : Heap} {L : List (Nat × List Int)} {it : Array Value} (r : VRels h (L.map fun p => .ref p.1) it.toList) {j : Nat} (h1 : j < it.size) : ∃ p, L[j]? = some p ∧ it[j] = .ref p.1 ∧ p ∈ L := by
  have hl := r.length
  simp only [List.length_map, Array.length_toList] at hl
  have hj : j < L.length := by omega
  refine ⟨L[j], by simp [hj], ?_, List.getElem_mem hj⟩
  obtain ⟨v, e1, e2⟩ := r.get (i := j) (a := .ref L[j].1) (by simp [hj])
  have : it.toList[j]? = some it[j] := by simp [h1]
  rw [this] at e1
  rw [Option.some.inj e1]
  exact e2.ref_inv
theorem eqAt_ints {A' : Around} (h : Rel prog w c env σ s) (hu : A'.units < cLine) {p q : Nat × List Int} (e1 : σ.heap p.1 = some (.list (p.2.map .int))) (e2 : σ.heap q.1 = some (.list (q.2.map .int))) : EqAt A' s (.ref p.1) (.ref q.1) (p.2 == q.2) := by
  by_cases hne : p.1 = q.1
  · rw [hne, e2] at e1
    have : q.2 = p.2 := by
      have := congrArg (fun o : Option LO => match o with | some (.list l) => l | _ => []) e1
      simp only at this
      exact (List.map_inj_right (fun x y e => by cases e; rfl)).mp this
    rw [this, hne]
    have := EqAt.same (A := A') (s := s) (.ref q.1)
    simpa using this
  · obtain ⟨hz, it, n1, l1, r1⟩ := h.list_at e1
    obtain ⟨hz2, it2, n2, l2, r2⟩ := h.list_at e2
    have hi := ints_inv r1; have hj := ints_inv r2
    have s1 := r1.sizeA; have s2 := r2.sizeA
    simp only [List.length_map] at s1 s2
    refine EqAt.of_refs hne ?_
    by_cases hl : p.2.length = q.2.length
    · have := RcAt.lists (A := A') (e := fun j => p.2[j]? == q.2[j]?) l1.isList l2.isList (by omega) hu (fun j h1 h2 => by
        obtain ⟨i, t, e3, e4⟩ := IntsAre.getA hi h1
        obtain ⟨i2, t2, e5, e6⟩ := IntsAre.getA hj h2
        rw [e3, e5, e4, e6]
        exact (eqGives_int i i2 t t2).at _ _)
      rw [s1, all_range hl] at this
      exact this
    · have := RcAt.lists_lengths (A := A') l1.isList l2.isList (by simp; omega) hu
      have e : (p.2 == q.2) = false := beq_eq_false_iff_ne.mpr fun e => hl (by rw [e])
      rw [e]; exact this
theorem sim_plneD : Sim2 prog w TS (n + 1) A env (compareOp .NotEq) RB (pnot pleqD) := fun c σ s a x b y W h ra rb Q E q => by
  unfold pnot pleqD at q; split at q
  · obtain ⟨L, M, e1, e2, hL, hM, q⟩ := q
    cases ra.ref_inv; cases rb.ref_inv
    obtain ⟨hz, it, n1, l1, r1⟩ := h.list_at e1
    obtain ⟨hz2, it2, n2, l2, r2⟩ := h.list_at e2
    have s1 := r1.sizeA; have s2 := r2.sizeA
    simp only [List.length_map] at s1 s2
    have hW := W.units
    have hu : A.units < cLine := by omega
    have hu1 : A.in1.units < cLine := by show A.units + 1 < cLine; omega
    by_cases hl : L.length = M.length
    · refine ne_listAt (e := fun j => (L.map (·.2))[j]? == (M.map (·.2))[j]?) l1.isList l2.isList (by omega) hu (fun j h1 h2 => ?_) ⟨_, σ, ?_, h, Imm.refl _, q⟩
      · obtain ⟨p, p1, p2, p3⟩ := refs_at r1 h1
        obtain ⟨p', p1', p2', p3'⟩ := refs_at r2 h2
        rw [p2, p2', List.getElem?_map, List.getElem?_map, p1, p1']
        have := eqAt_ints (A' := A.in1) h hu1 (hL p p3) (hM p' p3')
        simpa using this
      · show _ = _
        have := all_range (is := L.map (·.2)) (js := M.map (·.2)) (by simpa using hl)
        rw [List.length_map] at this
        rw [s1, this]
    · refine ne_list_lengthsAt l1.isList l2.isList (by simp; omega) hu ⟨_, σ, ?_, h, Imm.refl _, q⟩
      show _ = _
      have : (L.map (·.2) == M.map (·.2)) = false := beq_eq_false_iff_ne.mpr fun e => hl (by simpa using congrArg List.length e)
      rw [this]; rfl
  · exact q.elim
theorem VRels.none {h : Heap} {xs : List LV} {it : Array Value} (r : VRels h xs it.toList) {i : Nat} (e : xs[i]? = none) : it[i]? = none := by
  have hl := r.length
  simp only [Array.length_toList] at hl
  rw [List.getElem?_eq_none_iff] at e
  rw [Array.getElem?_eq_none_iff]
  omega
theorem VRels.pick {h : Heap} {xs : List LV} {it : Array Value} (r : VRels h xs it.toList) : ∀ ids : List Nat, VRels h (ids.filterMap (xs[·]?)) (ids.filterMap (it[·]?))
  | [] => .nil
  | i :: ids => by
    cases e : xs[i]? with
    | none =>
      rw [List.filterMap_cons_none e, List.filterMap_cons_none (r.none e)]
      exact VRels.pick r ids
    | some a =>
      obtain ⟨v, h1, h2⟩ := r.get e
      rw [Array.getElem?_toList] at h1
      rw [List.filterMap_cons_some e, List.filterMap_cons_some h1]
      exact .cons h2 (VRels.pick r ids)
theorem pick_rel {h : Heap} {xs : List LV} {it : Array Value} (r : VRels h xs it.toList) (a b c : Option Int) : ∃ ys, VRels h ys (slicePick it a b c).toList ∧ ∀ y ∈ ys, y ∈ xs := by
  unfold slicePick
  generalize sliceRange _ _ _ = ids
  refine ⟨ids.filterMap (xs[·]?), by simpa using VRels.pick r ids, fun y hy => ?_⟩
  obtain ⟨i, _, hi⟩ := List.mem_filterMap.mp hy
  exact List.mem_of_getElem? hi
theorem sim_step {value lo st : Expr} {p pos : Pos} {mo ml ms : PTx LV} (ho : Sim prog w TS n A env (eval value env) VRel mo) (hl : Sim prog w TS n A env (eval lo env) VRel ml) (hst : Sim prog w TS n A env (eval st env) VRel ms) (ht : ∀ o r, letTemporaryGo value o r = pure ()) :
    Sim prog w TS n A env (eval (.Subscript value (.Slice (some lo) none (some st) p) pos) env) VRel (pbind mo fun a => pbind ml fun b => pbind ms fun c => pstep a b c) := fun c σ s W h Q E q => by
  refine wpAny_Subscript_Slice_step slot_list_getitem.lookup ((ho c σ s W h).go (Imm.refl _) q fun a x σ₁ s₁ ra h₁ i₁ j₁ q₁ => wpAny_Slice ((hl c σ₁ s₁ W h₁).go i₁ q₁ fun b y σ₂ s₂ rb h₂ i₂ j₂ q₂ => wpAny_pure ((hst c σ₂ s₂ W h₂).go i₂ q₂ fun d z σ₃ s₃ rd h₃ i₃ j₃ q₃ => ?_))) ht
  have ra := (ra.imm j₂).imm j₃
  have rb := rb.imm j₃
  obtain ⟨a9, k9, m9, xs, rfl, rfl, rfl, e, hk, q₃⟩ := q₃
  cases ra.ref_inv; obtain ⟨t, rfl⟩ := rb.int_inv; obtain ⟨u, rfl⟩ := rd.int_inv
  obtain ⟨h₄, i₄⟩ := slice_push h₃ (.int k9 t) .none (.int m9 u)
  obtain ⟨hz, it, n1, l1, r1⟩ := h₄.list_at e
  have hsz := r1.sizeA
  have := cap_le
  obtain ⟨ys, hp, hmem⟩ := pick_rel r1 (some k9) none (some m9)
  have hle := slicePick_size_le it (some k9) none (some m9)
  refine ⟨l1.isList.typeIs, wpAny_getItem_list_slice l1.isList (Heap.IsSliceOf.new ..) (.int _ _) .none (.int _ _) (by simpa using hk) ?_ (by omega)⟩
  generalize slicePick it (some k9) none (some m9) = pk at hp hle
  have hpl := hp.sizeA
  have hyl : ys.length ≤ xs.length := by omega
  have k := fun b o (e : (s₃.heap.push { cls := .type "slice", data := .fields #[.int k9 t, .none, .int m9 u] }).get? b = some o) => Heap.get?_push_of_some { cls := .type "list", data := .seq pk } e
  have h₅ := h₄.alloc (tk := s₃.toks) (o := .list ys) k ⟨Nat.le_trans hyl hz, _, 0, Heap.get?_push_size _ rfl, hp.imm (Imm.of_keeps k)⟩
  exact ⟨_, _, .ref _, h₅, (i₃.trans i₄).trans (Imm.of_keeps k), q₃ _ _ h₄.fresh_obj hmem hyl⟩
end
end Mine
end
noncomputable section
open PySem PySem.W PyProof.Rows PySem.Calls PySem.SeqAt
set_option Elab.async false
set_option linter.unusedVariables false
set_option maxRecDepth 100000
set_option maxHeartbeats 4000000
namespace Mine
structure FactsL (TS : TopS) (ad : Ad) : Prop extends Facts TS ad where
  fn_siftdown : FnB TS ad.siftdown (fnAt PySem.Challenge.pw_nq0219_02 13) ["heap", "startpos", "pos"]
  fn_siftup : FnB TS ad.siftup (fnAt PySem.Challenge.pw_nq0219_02 14) ["heap", "pos"]
  fn_heappush : FnB TS ad.heappush (fnAt PySem.Challenge.pw_nq0219_02 10) ["heap", "item"]
  fn_heappop : FnB TS ad.heappop (fnAt PySem.Challenge.pw_nq0219_02 11) ["heap"]
  fn_heapify : FnB TS ad.heapify (fnAt PySem.Challenge.pw_nq0219_02 12) ["x"]
  fn_sorted_list_difference : FnB TS ad.sld (fnAt PySem.Challenge.pw_nq0219_02 2) ["expected", "actual"]
  fn_initN : FnB TS ad.initN (inAt (fnAt PySem.Challenge.pw_nq0219_02 6) 1) ["self", "node"]
  fn_get_nodeinfo : FnB TS ad.get (inAt (fnAt PySem.Challenge.pw_nq0219_02 8) 1) ["self", "node"]
  fn_add : FnF TS ad.add (inAt (fnAt PySem.Challenge.pw_nq0219_02 8) 2)
  fn_initT : ∃ o fd, FnIs TS ad.initT o fd (fnScope (inAt (fnAt PySem.Challenge.pw_nq0219_02 8) 0)) (fnBody (inAt (fnAt PySem.Challenge.pw_nq0219_02 8) 0)) ∧ ∀ (s : Shared) (xs : List Value), TS.K.In s.heap → xs.length = 2 → BindsTo s fd ⟨xs, []⟩ ((["self", "graph"].map Str.ofString).zip xs)
  fn_get_ready : FnB TS ad.ready (inAt (fnAt PySem.Challenge.pw_nq0219_02 8) 4) ["self"]
  fn_is_active : FnB TS ad.active (inAt (fnAt PySem.Challenge.pw_nq0219_02 8) 5) ["self"]
  fn_done : FnF TS ad.done (inAt (fnAt PySem.Challenge.pw_nq0219_02 8) 7)
  fn_find_cycle : FnB TS ad.cyc (inAt (fnAt PySem.Challenge.pw_nq0219_02 8) 8) ["self"]
  fn_prepare : FnB TS ad.prep (inAt (fnAt PySem.Challenge.pw_nq0219_02 8) 3) ["self"]
  fn_law_joined : FnB TS ad.joined (fnAt PySem.Challenge.pw_nq0219_02 17) ["rows"]
  fn_law_parents : FnB TS ad.lparents (fnAt PySem.Challenge.pw_nq0219_02 16) ["wants", "names"]
  fn_law_read : FnB TS ad.read (fnAt PySem.Challenge.pw_nq0219_02 18) ["parents"]
  fn_law_marked : FnB TS ad.marked (fnAt PySem.Challenge.pw_nq0219_02 19) ["parents", "ranks", "left", "rest"]
  fn_law_listed : FnB TS ad.listed (fnAt PySem.Challenge.pw_nq0219_02 20) ["seen", "left", "rest"]
  fn_law_reached : FnB TS ad.reached (fnAt PySem.Challenge.pw_nq0219_02 21) ["parents", "names", "heads"]
  fn_law_due : FnB TS ad.due (fnAt PySem.Challenge.pw_nq0219_02 22) ["parents", "names", "left", "rest"]
  gl_law_parents : TS.gl "_law_parents" = some (.ref ad.lparents)
  kp_law_parents : keepIn TS.K (.ref ad.lparents) = true
  gl_law_read : TS.gl "_law_read" = some (.ref ad.read)
  kp_law_read : keepIn TS.K (.ref ad.read) = true
  gl_law_marked : TS.gl "_law_marked" = some (.ref ad.marked)
  kp_law_marked : keepIn TS.K (.ref ad.marked) = true
  gl_law_listed : TS.gl "_law_listed" = some (.ref ad.listed)
  kp_law_listed : keepIn TS.K (.ref ad.listed) = true
  gl_law_reached : TS.gl "_law_reached" = some (.ref ad.reached)
  kp_law_reached : keepIn TS.K (.ref ad.reached) = true
  gl_law_due : TS.gl "_law_due" = some (.ref ad.due)
  kp_law_due : keepIn TS.K (.ref ad.due) = true
section
variable {prog : Program} {w : World} {TS : TopS} {A : Around} {n : Nat}
def B_siftdown (ad : Ad) : PTx LF :=
  (pseq
  (pbind (pbind (pget "heap") fun a => pbind (pget "pos") fun b => plget a b) fun v => pbind (pset "newitem" v) fun _ => pret .next)
  (pseq
  (pwhile (pbind (pget "pos") fun a => pbind (pget "startpos") fun b => pgt a b) (pseq
  (pbind (pbind (pbind (pget "pos") fun a => pbind (pret (.int 1)) fun b => psub a b) fun a => pbind (pret (.int 1)) fun b => pshr a b) fun v => pbind (pset "parentpos" v) fun _ => pret .next)
  (pseq
  (pbind (pbind (pget "heap") fun a => pbind (pget "parentpos") fun b => plget a b) fun v => pbind (pset "parent" v) fun _ => pret .next)
  (pseq
  (pif (pbind (pget "newitem") fun a => pbind (pget "parent") fun b => plt a b) (pseq
  (pbind (pget "parent") fun v => pbind ((fun v => pbind (pget "heap") fun a => pbind (pget "pos") fun b => plset a b v) v) fun _ => pret .next)
  (pseq
  (pbind (pget "parentpos") fun v => pbind (pset "pos" v) fun _ => pret .next)
  (pret .cont))) (pret .next))
  (pret .brk)))) (pret .next))
  (pbind (pget "newitem") fun v => pbind ((fun v => pbind (pget "heap") fun a => pbind (pget "pos") fun b => plset a b v) v) fun _ => pret .next)))
abbrev P_siftdown (ad : Ad) : List LV → PTx LV := pdef (bndP ["heap", "startpos", "pos"]) (B_siftdown ad)
theorem Q_siftdown {ad : Ad} (F : FactsL TS ad) (hh : A.handled = none) {L f : Addr} {q : Str} {cd : Value} : Sim prog w TS (n + 0) A (fenv (fnScope (fnAt PySem.Challenge.pw_nq0219_02 13)) L q f cd) (execs (fnBody (fnAt PySem.Challenge.pw_nq0219_02 13)) (fenv (fnScope (fnAt PySem.Challenge.pw_nq0219_02 13)) L q f cd)) FlRel (B_siftdown ad) :=
  (sim_cons
  (sim_Assign_Name (x := "newitem") (.inl (by kernel_rfl)) (sim_Subscript (sim_Name (x := "heap") (by kernel_rfl)) (sim_Name (x := "pos") (by kernel_rfl)) (tail_plget (fun _ _ => rfl))) (by kernel_rfl))
  (sim_cons
  (sim_While rfl (sim_test_Compare (sim_Name (x := "pos") (by kernel_rfl)) (sim_Name (x := "startpos") (by kernel_rfl)) sim_gt rfl) (sim_cons
  (sim_Assign_Name (x := "parentpos") (.inl (by kernel_rfl)) (sim_BinOp (sim_BinOp (sim_Name (x := "pos") (by kernel_rfl)) sim_int sim_sub) sim_int sim_shr) (by kernel_rfl))
  (sim_cons
  (sim_Assign_Name (x := "parent") (.inl (by kernel_rfl)) (sim_Subscript (sim_Name (x := "heap") (by kernel_rfl)) (sim_Name (x := "parentpos") (by kernel_rfl)) (tail_plget (fun _ _ => rfl))) (by kernel_rfl))
  (sim_cons
  (sim_If (sim_test_Compare (sim_Name (x := "newitem") (by kernel_rfl)) (sim_Name (x := "parent") (by kernel_rfl)) sim_lt rfl) (sim_cons
  (sim_Assign (sim_Name (x := "parent") (by kernel_rfl)) (sim_tSub (sim_Name (x := "heap") (by kernel_rfl)) (sim_Name (x := "pos") (by kernel_rfl)) sim_plset) rfl rfl rfl)
  (sim_cons
  (sim_Assign_Name (x := "pos") (.inl (by kernel_rfl)) (sim_Name (x := "parentpos") (by kernel_rfl)) (by kernel_rfl))
  (sim_one sim_Continue))) sim_nil)
  (sim_one sim_Break)))) sim_nil)
  (sim_one (sim_Assign (sim_Name (x := "newitem") (by kernel_rfl)) (sim_tSub (sim_Name (x := "heap") (by kernel_rfl)) (sim_Name (x := "pos") (by kernel_rfl)) sim_plset) rfl rfl rfl))))
theorem S_siftdown {ad : Ad} (F : FactsL TS ad) (hh : A.handled = none) : SimF prog w TS (n + 1) A (.ref ad.siftdown) (P_siftdown ad) := by
  obtain ⟨o, fd, H, hb⟩ := F.fn_siftdown
  exact sim_def H hh (bind_plain hb) (names_okP (by kernel_rfl)) (fun A' L q cd hh' => Q_siftdown F hh')
def B_siftup (ad : Ad) : PTx LF :=
  (pseq
  (pbind (pbind (pbind (pget "heap") fun a => pbind (pret []) fun as => pret (a :: as)) plen) fun v => pbind (pset "endpos" v) fun _ => pret .next)
  (pseq
  (pbind (pget "pos") fun v => pbind (pset "startpos" v) fun _ => pret .next)
  (pseq
  (pbind (pbind (pget "heap") fun a => pbind (pget "pos") fun b => plget a b) fun v => pbind (pset "newitem" v) fun _ => pret .next)
  (pseq
  (pbind (pbind (pbind (pret (.int 2)) fun a => pbind (pget "pos") fun b => pmul a b) fun a => pbind (pret (.int 1)) fun b => padd a b) fun v => pbind (pset "childpos" v) fun _ => pret .next)
  (pseq
  (pwhile (pbind (pget "childpos") fun a => pbind (pget "endpos") fun b => plt a b) (pseq
  (pbind (pbind (pget "childpos") fun a => pbind (pret (.int 1)) fun b => padd a b) fun v => pbind (pset "rightpos" v) fun _ => pret .next)
  (pseq
  (pif (pbind (pbind (pget "rightpos") fun a => pbind (pget "endpos") fun b => plt a b) fun b => fun Q E σ => if b = true then (pbind (pbind (pbind (pget "heap") fun a => pbind (pget "childpos") fun b => plget a b) fun a => pbind (pbind (pget "heap") fun a => pbind (pget "rightpos") fun b => plget a b) fun b => plt a b) fun b => pret (!b)) Q E σ else Q false σ) (pbind (pget "rightpos") fun v => pbind (pset "childpos" v) fun _ => pret .next) (pret .next))
  (pseq
  (pbind (pbind (pget "heap") fun a => pbind (pget "childpos") fun b => plget a b) fun v => pbind ((fun v => pbind (pget "heap") fun a => pbind (pget "pos") fun b => plset a b v) v) fun _ => pret .next)
  (pseq
  (pbind (pget "childpos") fun v => pbind (pset "pos" v) fun _ => pret .next)
  (pbind (pbind (pbind (pret (.int 2)) fun a => pbind (pget "pos") fun b => pmul a b) fun a => pbind (pret (.int 1)) fun b => padd a b) fun v => pbind (pset "childpos" v) fun _ => pret .next))))) (pret .next))
  (pseq
  (pbind (pget "newitem") fun v => pbind ((fun v => pbind (pget "heap") fun a => pbind (pget "pos") fun b => plset a b v) v) fun _ => pret .next)
  (pbind (pbind (pbind (pget "heap") fun a => pbind (pbind (pget "startpos") fun a => pbind (pbind (pget "pos") fun a => pbind (pret []) fun as => pret (a :: as)) fun as => pret (a :: as)) fun as => pret (a :: as)) (P_siftdown ad)) fun _ => pret .next)))))))
abbrev P_siftup (ad : Ad) : List LV → PTx LV := pdef (bndP ["heap", "pos"]) (B_siftup ad)
theorem Q_siftup {ad : Ad} (F : FactsL TS ad) (hh : A.handled = none) {L f : Addr} {q : Str} {cd : Value} : Sim prog w TS (n + 1) A (fenv (fnScope (fnAt PySem.Challenge.pw_nq0219_02 14)) L q f cd) (execs (fnBody (fnAt PySem.Challenge.pw_nq0219_02 14)) (fenv (fnScope (fnAt PySem.Challenge.pw_nq0219_02 14)) L q f cd)) FlRel (B_siftup ad) :=
  (sim_cons
  (sim_Assign_Name (x := "endpos") (.inl (by kernel_rfl)) (sim_CallB F.gl_len rfl (by kernel_rfl) (by kernel_rfl) rfl (sim_arg (sim_Name (x := "heap") (by kernel_rfl)) sim_arg_nil rfl) sim_len) (by kernel_rfl))
  (sim_cons
  (sim_Assign_Name (x := "startpos") (.inl (by kernel_rfl)) (sim_Name (x := "pos") (by kernel_rfl)) (by kernel_rfl))
  (sim_cons
  (sim_Assign_Name (x := "newitem") (.inl (by kernel_rfl)) (sim_Subscript (sim_Name (x := "heap") (by kernel_rfl)) (sim_Name (x := "pos") (by kernel_rfl)) (tail_plget (fun _ _ => rfl))) (by kernel_rfl))
  (sim_cons
  (sim_Assign_Name (x := "childpos") (.inl (by kernel_rfl)) (sim_BinOp (sim_BinOp sim_int (sim_Name (x := "pos") (by kernel_rfl)) sim_mul) sim_int sim_add) (by kernel_rfl))
  (sim_cons
  (sim_While rfl (sim_test_Compare (sim_Name (x := "childpos") (by kernel_rfl)) (sim_Name (x := "endpos") (by kernel_rfl)) sim_lt rfl) (sim_cons
  (sim_Assign_Name (x := "rightpos") (.inl (by kernel_rfl)) (sim_BinOp (sim_Name (x := "childpos") (by kernel_rfl)) sim_int sim_add) (by kernel_rfl))
  (sim_cons
  (sim_If (sim_test_And (sim_test_Compare (sim_Name (x := "rightpos") (by kernel_rfl)) (sim_Name (x := "endpos") (by kernel_rfl)) sim_lt rfl) (sim_test_Not (sim_test_Compare (sim_Subscript (sim_Name (x := "heap") (by kernel_rfl)) (sim_Name (x := "childpos") (by kernel_rfl)) (tail_plget (fun _ _ => rfl))) (sim_Subscript (sim_Name (x := "heap") (by kernel_rfl)) (sim_Name (x := "rightpos") (by kernel_rfl)) (tail_plget (fun _ _ => rfl))) sim_lt rfl))) (sim_one (sim_Assign_Name (x := "childpos") (.inl (by kernel_rfl)) (sim_Name (x := "rightpos") (by kernel_rfl)) (by kernel_rfl))) sim_nil)
  (sim_cons
  (sim_Assign (sim_Subscript (sim_Name (x := "heap") (by kernel_rfl)) (sim_Name (x := "childpos") (by kernel_rfl)) (tail_plget (fun _ _ => rfl))) (sim_tSub (sim_Name (x := "heap") (by kernel_rfl)) (sim_Name (x := "pos") (by kernel_rfl)) sim_plset) rfl rfl rfl)
  (sim_cons
  (sim_Assign_Name (x := "pos") (.inl (by kernel_rfl)) (sim_Name (x := "childpos") (by kernel_rfl)) (by kernel_rfl))
  (sim_one (sim_Assign_Name (x := "childpos") (.inl (by kernel_rfl)) (sim_BinOp (sim_BinOp sim_int (sim_Name (x := "pos") (by kernel_rfl)) sim_mul) sim_int sim_add) (by kernel_rfl))))))) sim_nil)
  (sim_cons
  (sim_Assign (sim_Name (x := "newitem") (by kernel_rfl)) (sim_tSub (sim_Name (x := "heap") (by kernel_rfl)) (sim_Name (x := "pos") (by kernel_rfl)) sim_plset) rfl rfl rfl)
  (sim_one (sim_Expr (sim_CallF F.gl_siftdown F.kp_siftdown (by kernel_rfl) (by kernel_rfl) rfl rfl (sim_arg (sim_Name (x := "heap") (by kernel_rfl)) (sim_arg (sim_Name (x := "startpos") (by kernel_rfl)) (sim_arg (sim_Name (x := "pos") (by kernel_rfl)) sim_arg_nil rfl) rfl) rfl) (S_siftdown F hh)) rfl rfl))))))))
theorem S_siftup {ad : Ad} (F : FactsL TS ad) (hh : A.handled = none) : SimF prog w TS (n + 2) A (.ref ad.siftup) (P_siftup ad) := by
  obtain ⟨o, fd, H, hb⟩ := F.fn_siftup
  exact sim_def H hh (bind_plain hb) (names_okP (by kernel_rfl)) (fun A' L q cd hh' => Q_siftup F hh')
def B_heappush (ad : Ad) : PTx LF :=
  (pseq
  (pbind (pbind (pget "heap") fun a => pbind (pislist a) fun _ => pbind (pbind (pget "item") fun a => pbind (pret []) fun as => pret (a :: as)) fun as => plappend a as) fun _ => pret .next)
  (pbind (pbind (pbind (pget "heap") fun a => pbind (pbind (pret (.int 0)) fun a => pbind (pbind (pbind (pbind (pbind (pget "heap") fun a => pbind (pret []) fun as => pret (a :: as)) plen) fun a => pbind (pret (.int 1)) fun b => psub a b) fun a => pbind (pret []) fun as => pret (a :: as)) fun as => pret (a :: as)) fun as => pret (a :: as)) (P_siftdown ad)) fun _ => pret .next))
abbrev P_heappush (ad : Ad) : List LV → PTx LV := pdef (bndP ["heap", "item"]) (B_heappush ad)
theorem Q_heappush {ad : Ad} (F : FactsL TS ad) (hh : A.handled = none) {L f : Addr} {q : Str} {cd : Value} : Sim prog w TS (n + 1) A (fenv (fnScope (fnAt PySem.Challenge.pw_nq0219_02 10)) L q f cd) (execs (fnBody (fnAt PySem.Challenge.pw_nq0219_02 10)) (fenv (fnScope (fnAt PySem.Challenge.pw_nq0219_02 10)) L q f cd)) FlRel (B_heappush ad) :=
  (sim_cons
  (sim_Expr (sim_CallM PySem.F.plainAttrs_list PySem.F.slot_list_append PySem.F.type_list_append rfl rfl rfl rfl (sim_Name (x := "heap") (by kernel_rfl)) isOf_list (sim_arg (sim_Name (x := "item") (by kernel_rfl)) sim_arg_nil rfl) sim_append) rfl rfl)
  (sim_one (sim_Expr (sim_CallF F.gl_siftdown F.kp_siftdown (by kernel_rfl) (by kernel_rfl) rfl rfl (sim_arg (sim_Name (x := "heap") (by kernel_rfl)) (sim_arg sim_int (sim_arg (sim_BinOp (sim_CallB F.gl_len rfl (by kernel_rfl) (by kernel_rfl) rfl (sim_arg (sim_Name (x := "heap") (by kernel_rfl)) sim_arg_nil rfl) sim_len) sim_int sim_sub) sim_arg_nil rfl) rfl) rfl) (S_siftdown F hh)) rfl rfl)))
theorem S_heappush {ad : Ad} (F : FactsL TS ad) (hh : A.handled = none) : SimF prog w TS (n + 2) A (.ref ad.heappush) (P_heappush ad) := by
  obtain ⟨o, fd, H, hb⟩ := F.fn_heappush
  exact sim_def H hh (bind_plain hb) (names_okP (by kernel_rfl)) (fun A' L q cd hh' => Q_heappush F hh')
def B_heappop (ad : Ad) : PTx LF :=
  (pseq
  (pbind (pbind (pget "heap") fun a => pbind (pislist a) fun _ => pbind (pret []) fun as => plpop a as) fun v => pbind (pset "lastelt" v) fun _ => pret .next)
  (pseq
  (pif (pbind (pget "heap") ptruth) (pseq
  (pbind (pbind (pget "heap") fun a => pbind (pret (.int 0)) fun b => plget a b) fun v => pbind (pset "returnitem" v) fun _ => pret .next)
  (pseq
  (pbind (pget "lastelt") fun v => pbind ((fun v => pbind (pget "heap") fun a => pbind (pret (.int 0)) fun b => plset a b v) v) fun _ => pret .next)
  (pseq
  (pbind (pbind (pbind (pget "heap") fun a => pbind (pbind (pret (.int 0)) fun a => pbind (pret []) fun as => pret (a :: as)) fun as => pret (a :: as)) (P_siftup ad)) fun _ => pret .next)
  (pbind (pget "returnitem") fun v => pret (.ret v))))) (pret .next))
  (pbind (pget "lastelt") fun v => pret (.ret v))))
abbrev P_heappop (ad : Ad) : List LV → PTx LV := pdef (bndP ["heap"]) (B_heappop ad)
theorem Q_heappop {ad : Ad} (F : FactsL TS ad) (hh : A.handled = none) {L f : Addr} {q : Str} {cd : Value} : Sim prog w TS (n + 2) A (fenv (fnScope (fnAt PySem.Challenge.pw_nq0219_02 11)) L q f cd) (execs (fnBody (fnAt PySem.Challenge.pw_nq0219_02 11)) (fenv (fnScope (fnAt PySem.Challenge.pw_nq0219_02 11)) L q f cd)) FlRel (B_heappop ad) :=
  (sim_cons
  (sim_Assign_Name (x := "lastelt") (.inl (by kernel_rfl)) (sim_CallM PySem.F.plainAttrs_list PySem.F.slot_list_pop PySem.F.type_list_pop rfl rfl rfl rfl (sim_Name (x := "heap") (by kernel_rfl)) isOf_list sim_arg_nil sim_pop) (by kernel_rfl))
  (sim_cons
  (sim_If (sim_test_val (sim_Name (x := "heap") (by kernel_rfl)) sim_truth rfl) (sim_cons
  (sim_Assign_Name (x := "returnitem") (.inl (by kernel_rfl)) (sim_Subscript (sim_Name (x := "heap") (by kernel_rfl)) sim_int (tail_plget (fun _ _ => rfl))) (by kernel_rfl))
  (sim_cons
  (sim_Assign (sim_Name (x := "lastelt") (by kernel_rfl)) (sim_tSub (sim_Name (x := "heap") (by kernel_rfl)) sim_int sim_plset) rfl rfl rfl)
  (sim_cons
  (sim_Expr (sim_CallF F.gl_siftup F.kp_siftup (by kernel_rfl) (by kernel_rfl) rfl rfl (sim_arg (sim_Name (x := "heap") (by kernel_rfl)) (sim_arg sim_int sim_arg_nil rfl) rfl) (S_siftup F hh)) rfl rfl)
  (sim_one (sim_Return (sim_Name (x := "returnitem") (by kernel_rfl))))))) sim_nil)
  (sim_one (sim_Return (sim_Name (x := "lastelt") (by kernel_rfl))))))
theorem S_heappop {ad : Ad} (F : FactsL TS ad) (hh : A.handled = none) : SimF prog w TS (n + 3) A (.ref ad.heappop) (P_heappop ad) := by
  obtain ⟨o, fd, H, hb⟩ := F.fn_heappop
  exact sim_def H hh (bind_plain hb) (names_okP (by kernel_rfl)) (fun A' L q cd hh' => Q_heappop F hh')
def B_heapify (ad : Ad) : PTx LF :=
  (pseq
  (pbind (pbind (pbind (pget "x") fun a => pbind (pret []) fun as => pret (a :: as)) plen) fun v => pbind (pset "n" v) fun _ => pret .next)
  (pfor (pbind (pbind (pbind (pbind (pget "n") fun a => pbind (pret (.int 2)) fun b => pdiv a b) fun a => pbind (pret []) fun as => pret (a :: as)) prange1) prevr) (pset "i") (pbind (pbind (pbind (pget "x") fun a => pbind (pbind (pget "i") fun a => pbind (pret []) fun as => pret (a :: as)) fun as => pret (a :: as)) (P_siftup ad)) fun _ => pret .next) (pret .next)))
abbrev P_heapify (ad : Ad) : List LV → PTx LV := pdef (bndP ["x"]) (B_heapify ad)
theorem Q_heapify {ad : Ad} (F : FactsL TS ad) (hh : A.handled = none) {L f : Addr} {q : Str} {cd : Value} : Sim prog w TS (n + 2) A (fenv (fnScope (fnAt PySem.Challenge.pw_nq0219_02 12)) L q f cd) (execs (fnBody (fnAt PySem.Challenge.pw_nq0219_02 12)) (fenv (fnScope (fnAt PySem.Challenge.pw_nq0219_02 12)) L q f cd)) FlRel (B_heapify ad) :=
  (sim_cons
  (sim_Assign_Name (x := "n") (.inl (by kernel_rfl)) (sim_CallB F.gl_len rfl (by kernel_rfl) (by kernel_rfl) rfl (sim_arg (sim_Name (x := "x") (by kernel_rfl)) sim_arg_nil rfl) sim_len) (by kernel_rfl))
  (sim_one (sim_For rfl (it_revr hh F.gl_reversed (by kernel_rfl) rfl (sim_CallB F.gl_range rfl (by kernel_rfl) (by kernel_rfl) rfl (sim_arg (sim_BinOp (sim_Name (x := "n") (by kernel_rfl)) sim_int sim_div) sim_arg_nil rfl) sim_range1)) (sim_tName (x := "i") (.inl (by kernel_rfl))) (sim_one (sim_Expr (sim_CallF F.gl_siftup F.kp_siftup (by kernel_rfl) (by kernel_rfl) rfl rfl (sim_arg (sim_Name (x := "x") (by kernel_rfl)) (sim_arg (sim_Name (x := "i") (by kernel_rfl)) sim_arg_nil rfl) rfl) (S_siftup F hh)) rfl rfl)) sim_nil (fun _ => rfl))))
theorem S_heapify {ad : Ad} (F : FactsL TS ad) (hh : A.handled = none) : SimF prog w TS (n + 3) A (.ref ad.heapify) (P_heapify ad) := by
  obtain ⟨o, fd, H, hb⟩ := F.fn_heapify
  exact sim_def H hh (bind_plain hb) (names_okP (by kernel_rfl)) (fun A' L q cd hh' => Q_heapify F hh')
def B_sorted_list_difference (ad : Ad) : PTx LF :=
  (pseq
  (pbind (pret (.int 0)) fun v => pbind ((pset "i") v) fun _ => pbind ((pset "j") v) fun _ => pret .next)
  (pseq
  (pbind (pbind (pret []) plist) fun v => pbind (pset "missing" v) fun _ => pret .next)
  (pseq
  (pbind (pbind (pret []) plist) fun v => pbind (pset "unexpected" v) fun _ => pret .next)
  (pseq
  (pwhile (pbind (pret (.bool true)) ptruth) (fun Q E σ => (pseq
  (pbind (pbind (pget "expected") fun a => pbind (pget "i") fun b => plitem a b) fun v => pbind (pset "e" v) fun _ => pret .next)
  (pseq
  (pbind (pbind (pget "actual") fun a => pbind (pget "j") fun b => plitem a b) fun v => pbind (pset "a" v) fun _ => pret .next)
  (pif (pbind (pget "e") fun a => pbind (pget "a") fun b => plt a b) (pseq
  (pbind (pbind (pget "missing") fun a => pbind (pislist a) fun _ => pbind (pbind (pget "e") fun a => pbind (pret []) fun as => pret (a :: as)) fun as => plappend a as) fun _ => pret .next)
  (pseq
  (pbind (pget "i") fun a => pbind (pret (.int 1)) fun b => pbind (padd a b) fun v => pbind (pset "i" v) fun _ => pret .next)
  (pwhile (pbind (pbind (pget "expected") fun a => pbind (pget "i") fun b => plitem a b) fun a => pbind (pget "e") fun b => peq a b) (pbind (pget "i") fun a => pbind (pret (.int 1)) fun b => pbind (padd a b) fun v => pbind (pset "i" v) fun _ => pret .next) (pret .next)))) (pif (pbind (pget "e") fun a => pbind (pget "a") fun b => pgt a b) (pseq
  (pbind (pbind (pget "unexpected") fun a => pbind (pislist a) fun _ => pbind (pbind (pget "a") fun a => pbind (pret []) fun as => pret (a :: as)) fun as => plappend a as) fun _ => pret .next)
  (pseq
  (pbind (pget "j") fun a => pbind (pret (.int 1)) fun b => pbind (padd a b) fun v => pbind (pset "j" v) fun _ => pret .next)
  (pwhile (pbind (pbind (pget "actual") fun a => pbind (pget "j") fun b => plitem a b) fun a => pbind (pget "a") fun b => peq a b) (pbind (pget "j") fun a => pbind (pret (.int 1)) fun b => pbind (padd a b) fun v => pbind (pset "j" v) fun _ => pret .next) (pret .next)))) (pseq
  (pbind (pget "i") fun a => pbind (pret (.int 1)) fun b => pbind (padd a b) fun v => pbind (pset "i" v) fun _ => pret .next)
  (fun Q E σ => (pwhile (pbind (pbind (pget "expected") fun a => pbind (pget "i") fun b => plitem a b) fun a => pbind (pget "e") fun b => peq a b) (pbind (pget "i") fun a => pbind (pret (.int 1)) fun b => pbind (padd a b) fun v => pbind (pset "i" v) fun _ => pret .next) (pret .next)) (fun f σ' => (pseq
  (pbind (pget "j") fun a => pbind (pret (.int 1)) fun b => pbind (padd a b) fun v => pbind (pset "j" v) fun _ => pret .next)
  (pwhile (pbind (pbind (pget "actual") fun a => pbind (pget "j") fun b => plitem a b) fun a => pbind (pget "a") fun b => peq a b) (pbind (pget "j") fun a => pbind (pret (.int 1)) fun b => pbind (padd a b) fun v => pbind (pset "j" v) fun _ => pret .next) (pret .next))) (fun g σ'' => match g with | .next => Q f σ'' | g => Q g σ'') E σ') (fun x σ' => x.ctx = false ∧ (pseq
  (pbind (pget "j") fun a => pbind (pret (.int 1)) fun b => pbind (padd a b) fun v => pbind (pset "j" v) fun _ => pret .next)
  (pwhile (pbind (pbind (pget "actual") fun a => pbind (pget "j") fun b => plitemH a b) fun a => pbind (pget "a") fun b => peq a b) (pbind (pget "j") fun a => pbind (pret (.int 1)) fun b => pbind (padd a b) fun v => pbind (pset "j" v) fun _ => pret .next) (pret .next))) (fun g σ'' => match g with | .next => E x σ'' | _ => False) E σ') σ)))))) Q (fun x σ' => x.name = "IndexError" ∧ (pseq
  (pbind (pbind (pget "missing") fun a => pbind (pislist a) fun _ => pbind (pbind (pbind (pget "expected") fun a => pbind (pget "i") fun b => pfrom a b) fun a => pbind (pret []) fun as => pret (a :: as)) fun as => plextend a as) fun _ => pret .next)
  (pseq
  (pbind (pbind (pget "unexpected") fun a => pbind (pislist a) fun _ => pbind (pbind (pbind (pget "actual") fun a => pbind (pget "j") fun b => pfrom a b) fun a => pbind (pret []) fun as => pret (a :: as)) fun as => plextend a as) fun _ => pret .next)
  (pret .brk))) Q noE σ') σ) (pret .next))
  (pbind (pbind (pbind (pget "missing") fun a => pbind (pbind (pget "unexpected") fun a => pbind (pret []) fun as => pret (a :: as)) fun as => pret (a :: as)) ptuple) fun v => pret (.ret v))))))
abbrev P_sorted_list_difference (ad : Ad) : List LV → PTx LV := pdef (bndP ["expected", "actual"]) (B_sorted_list_difference ad)
theorem Q_sorted_list_difference {ad : Ad} (F : FactsL TS ad) (hh : A.handled = none) {L f : Addr} {q : Str} {cd : Value} : Sim prog w TS (n + 0) A (fenv (fnScope (fnAt PySem.Challenge.pw_nq0219_02 2)) L q f cd) (execs (fnBody (fnAt PySem.Challenge.pw_nq0219_02 2)) (fenv (fnScope (fnAt PySem.Challenge.pw_nq0219_02 2)) L q f cd)) FlRel (B_sorted_list_difference ad) :=
  (sim_cons
  (sim_Assign2 sim_int (sim_tName (x := "i") (.inl (by kernel_rfl))) (sim_tName (x := "j") (.inl (by kernel_rfl))) rfl rfl)
  (sim_cons
  (sim_Assign_Name (x := "missing") (.inl (by kernel_rfl)) (sim_List sim_arg_nil) (by kernel_rfl))
  (sim_cons
  (sim_Assign_Name (x := "unexpected") (.inl (by kernel_rfl)) (sim_List sim_arg_nil) (by kernel_rfl))
  (sim_cons
  (sim_While rfl (sim_test_val sim_bool sim_truth rfl) (sim_one (sim_TryExcept rfl F.gl_IndexError (by kernel_rfl) (by kernel_rfl) ex_IndexError.1 ex_IndexError.2.1 ex_IndexError.2.2 (sim_cons
  (sim_Assign_Name (x := "e") (.inl (by kernel_rfl)) (sim_Subscript (sim_Name (x := "expected") (by kernel_rfl)) (sim_Name (x := "i") (by kernel_rfl)) (tail_plitem hh (fun _ _ => rfl))) (by kernel_rfl))
  (sim_cons
  (sim_Assign_Name (x := "a") (.inl (by kernel_rfl)) (sim_Subscript (sim_Name (x := "actual") (by kernel_rfl)) (sim_Name (x := "j") (by kernel_rfl)) (tail_plitem hh (fun _ _ => rfl))) (by kernel_rfl))
  (sim_one (sim_If (sim_test_Compare (sim_Name (x := "e") (by kernel_rfl)) (sim_Name (x := "a") (by kernel_rfl)) sim_lt rfl) (sim_cons
  (sim_Expr (sim_CallM PySem.F.plainAttrs_list PySem.F.slot_list_append PySem.F.type_list_append rfl rfl rfl rfl (sim_Name (x := "missing") (by kernel_rfl)) isOf_list (sim_arg (sim_Name (x := "e") (by kernel_rfl)) sim_arg_nil rfl) sim_append) rfl rfl)
  (sim_cons
  (sim_AugAssign_Name (x := "i") (.inl (by kernel_rfl)) (by kernel_rfl) sim_int sim_iadd)
  (sim_one (sim_While rfl (sim_test_Compare (sim_Subscript (sim_Name (x := "expected") (by kernel_rfl)) (sim_Name (x := "i") (by kernel_rfl)) (tail_plitem hh (fun _ _ => rfl))) (sim_Name (x := "e") (by kernel_rfl)) sim_eq rfl) (sim_one (sim_AugAssign_Name (x := "i") (.inl (by kernel_rfl)) (by kernel_rfl) sim_int sim_iadd)) sim_nil)))) (sim_one (sim_If (sim_test_Compare (sim_Name (x := "e") (by kernel_rfl)) (sim_Name (x := "a") (by kernel_rfl)) sim_gt rfl) (sim_cons
  (sim_Expr (sim_CallM PySem.F.plainAttrs_list PySem.F.slot_list_append PySem.F.type_list_append rfl rfl rfl rfl (sim_Name (x := "unexpected") (by kernel_rfl)) isOf_list (sim_arg (sim_Name (x := "a") (by kernel_rfl)) sim_arg_nil rfl) sim_append) rfl rfl)
  (sim_cons
  (sim_AugAssign_Name (x := "j") (.inl (by kernel_rfl)) (by kernel_rfl) sim_int sim_iadd)
  (sim_one (sim_While rfl (sim_test_Compare (sim_Subscript (sim_Name (x := "actual") (by kernel_rfl)) (sim_Name (x := "j") (by kernel_rfl)) (tail_plitem hh (fun _ _ => rfl))) (sim_Name (x := "a") (by kernel_rfl)) sim_eq rfl) (sim_one (sim_AugAssign_Name (x := "j") (.inl (by kernel_rfl)) (by kernel_rfl) sim_int sim_iadd)) sim_nil)))) (sim_cons
  (sim_AugAssign_Name (x := "i") (.inl (by kernel_rfl)) (by kernel_rfl) sim_int sim_iadd)
  (sim_one (sim_TryFinally rfl (sim_one (sim_While rfl (sim_test_Compare (sim_Subscript (sim_Name (x := "expected") (by kernel_rfl)) (sim_Name (x := "i") (by kernel_rfl)) (tail_plitem hh (fun _ _ => rfl))) (sim_Name (x := "e") (by kernel_rfl)) sim_eq rfl) (sim_one (sim_AugAssign_Name (x := "i") (.inl (by kernel_rfl)) (by kernel_rfl) sim_int sim_iadd)) sim_nil)) (sim_cons
  (sim_AugAssign_Name (x := "j") (.inl (by kernel_rfl)) (by kernel_rfl) sim_int sim_iadd)
  (sim_one (sim_While rfl (sim_test_Compare (sim_Subscript (sim_Name (x := "actual") (by kernel_rfl)) (sim_Name (x := "j") (by kernel_rfl)) (tail_plitem hh (fun _ _ => rfl))) (sim_Name (x := "a") (by kernel_rfl)) sim_eq rfl) (sim_one (sim_AugAssign_Name (x := "j") (.inl (by kernel_rfl)) (by kernel_rfl) sim_int sim_iadd)) sim_nil))) (fun e0 => (sim_cons
  (sim_AugAssign_Name (x := "j") (.inl (by kernel_rfl)) (by kernel_rfl) sim_int sim_iadd)
  (sim_one (sim_While rfl (sim_test_Compare (sim_Subscript (sim_Name (x := "actual") (by kernel_rfl)) (sim_Name (x := "j") (by kernel_rfl)) (tail_plitemH (e0 := e0) F.hon rfl (fun _ _ => rfl))) (sim_Name (x := "a") (by kernel_rfl)) sim_eq rfl) (sim_one (sim_AugAssign_Name (x := "j") (.inl (by kernel_rfl)) (by kernel_rfl) sim_int sim_iadd)) sim_nil))))))))))))) (fun e0 => (sim_cons
  (sim_Expr (sim_CallM PySem.F.plainAttrs_list PySem.F.slot_list_extend PySem.F.type_list_extend rfl rfl rfl rfl (sim_Name (x := "missing") (by kernel_rfl)) isOf_list (sim_arg (sim_from (sim_Name (x := "expected") (by kernel_rfl)) (sim_Name (x := "i") (by kernel_rfl)) (fun _ _ => rfl)) sim_arg_nil rfl) sim_extend) rfl rfl)
  (sim_cons
  (sim_Expr (sim_CallM PySem.F.plainAttrs_list PySem.F.slot_list_extend PySem.F.type_list_extend rfl rfl rfl rfl (sim_Name (x := "unexpected") (by kernel_rfl)) isOf_list (sim_arg (sim_from (sim_Name (x := "actual") (by kernel_rfl)) (sim_Name (x := "j") (by kernel_rfl)) (fun _ _ => rfl)) sim_arg_nil rfl) sim_extend) rfl rfl)
  (sim_one sim_Break)))))) sim_nil)
  (sim_one (sim_Return (sim_Tuple (sim_arg (sim_Name (x := "missing") (by kernel_rfl)) (sim_arg (sim_Name (x := "unexpected") (by kernel_rfl)) sim_arg_nil rfl) rfl))))))))
theorem S_sorted_list_difference {ad : Ad} (F : FactsL TS ad) (hh : A.handled = none) : SimF prog w TS (n + 1) A (.ref ad.sld) (P_sorted_list_difference ad) := by
  obtain ⟨o, fd, H, hb⟩ := F.fn_sorted_list_difference
  exact sim_def H hh (bind_plain hb) (names_okP (by kernel_rfl)) (fun A' L q cd hh' => Q_sorted_list_difference F hh')
def B_initN (ad : Ad) : PTx LF :=
  (pseq
  (pbind (pget "node") fun v => pbind (pget "self") fun a9 => pbind (psetS ad.CN 0 a9 v) fun _ => pret .next)
  (pseq
  (pbind (pret (.int 0)) fun v => pbind (pget "self") fun a9 => pbind (psetS ad.CN 1 a9 v) fun _ => pret .next)
  (pbind (pbind (pret []) plist) fun v => pbind (pget "self") fun a9 => pbind (psetS ad.CN 2 a9 v) fun _ => pret .next)))
abbrev P_initN (ad : Ad) : List LV → PTx LV := pdef (bndP ["self", "node"]) (B_initN ad)
theorem Q_initN {ad : Ad} (F : FactsL TS ad) (hh : A.handled = none) {L f : Addr} {q : Str} {cd : Value} : Sim prog w TS (n + 0) A (fenv (fnScope (inAt (fnAt PySem.Challenge.pw_nq0219_02 6) 1)) L q f cd) (execs (fnBody (inAt (fnAt PySem.Challenge.pw_nq0219_02 6) 1)) (fenv (fnScope (inAt (fnAt PySem.Challenge.pw_nq0219_02 6) 1)) L q f cd)) FlRel (B_initN ad) :=
  (sim_cons
  (sim_AssignAttr (sim_Name (x := "node") (by kernel_rfl)) (sim_Name (x := "self") (by kernel_rfl)) (sim_setS F.stN F.poN F.snode.k F.snode.y F.snode.s (by decide)) rfl)
  (sim_cons
  (sim_AssignAttr sim_int (sim_Name (x := "self") (by kernel_rfl)) (sim_setS F.stN F.poN F.snpredecessors.k F.snpredecessors.y F.snpredecessors.s (by decide)) rfl)
  (sim_one (sim_AssignAttr (sim_List sim_arg_nil) (sim_Name (x := "self") (by kernel_rfl)) (sim_setS F.stN F.poN F.ssuccessors.k F.ssuccessors.y F.ssuccessors.s (by decide)) rfl))))
theorem S_initN {ad : Ad} (F : FactsL TS ad) (hh : A.handled = none) : SimF prog w TS (n + 1) A (.ref ad.initN) (P_initN ad) := by
  obtain ⟨o, fd, H, hb⟩ := F.fn_initN
  exact sim_def H hh (bind_plain hb) (names_okP (by kernel_rfl)) (fun A' L q cd hh' => Q_initN F hh')
abbrev P_N (ad : Ad) : List LV → PTx LV := pmake ad.CN (P_initN ad)
theorem up_N {ad : Ad} (F : FactsL TS ad) (hh : A.handled = none) : SimF prog w TS (n + 2) A (.ref ad.CN) (P_N ad) := sim_make F.mkN F.inN F.tiN hh fun A' h' => S_initN F h'
def B_get_nodeinfo (ad : Ad) : PTx LF :=
  (pseq
  (pif (pbind (pbind (pbind (pbind (pget "self") (pgetD ad.CT "_node2info")) fun a => pbind (pisdict a) fun _ => pbind (pbind (pget "node") fun a => pbind (pret []) fun as => pret (a :: as)) fun as => pdget1 a as) fun v => pbind ((pset "result") v) fun _ => pret v) fun a => pbind (pret .none) fun b => pisNone a b) (pbind (pbind (pbind (pget "node") fun a => pbind (pret []) fun as => pret (a :: as)) (P_N ad)) fun v => pbind ((fun v => pbind (pbind (pget "self") (pgetD ad.CT "_node2info")) fun a => pbind (pget "node") fun b => pdset a b v) v) fun _ => pbind ((pset "result") v) fun _ => pret .next) (pret .next))
  (pbind (pget "result") fun v => pret (.ret v)))
abbrev P_get_nodeinfo (ad : Ad) : List LV → PTx LV := pdef (bndP ["self", "node"]) (B_get_nodeinfo ad)
theorem Q_get_nodeinfo {ad : Ad} (F : FactsL TS ad) (hh : A.handled = none) {L f : Addr} {q : Str} {cd : Value} : Sim prog w TS (n + 2) A (fenv (fnScope (inAt (fnAt PySem.Challenge.pw_nq0219_02 8) 1)) L q f cd) (execs (fnBody (inAt (fnAt PySem.Challenge.pw_nq0219_02 8) 1)) (fenv (fnScope (inAt (fnAt PySem.Challenge.pw_nq0219_02 8) 1)) L q f cd)) FlRel (B_get_nodeinfo ad) :=
  (sim_cons
  (sim_If (sim_test_Compare (sim_NamedExpr (sim_CallM PySem.F.plainAttrs_dict PySem.F.slot_dict_get PySem.F.type_dict_get rfl rfl rfl rfl (sim_Attr (sim_Name (x := "self") (by kernel_rfl)) (sim_getD (F.pgT _) F.hdT F.at_node2info) (by with_unfolding_all rfl)) isOf_dict (sim_arg (sim_Name (x := "node") (by kernel_rfl)) sim_arg_nil rfl) sim_get1) (sim_tName (x := "result") (.inl (by kernel_rfl)))) sim_none sim_isNone rfl) (sim_one (sim_Assign2 (sim_CallF F.gl_CN F.kp_CN (by kernel_rfl) (by kernel_rfl) rfl rfl (sim_arg (sim_Name (x := "node") (by kernel_rfl)) sim_arg_nil rfl) (up_N F hh)) (sim_tSub (sim_Attr (sim_Name (x := "self") (by kernel_rfl)) (sim_getD (F.pgT _) F.hdT F.at_node2info) (by with_unfolding_all rfl)) (sim_Name (x := "node") (by kernel_rfl)) sim_pdset) (sim_tName (x := "result") (.inl (by kernel_rfl))) rfl rfl)) sim_nil)
  (sim_one (sim_Return (sim_Name (x := "result") (by kernel_rfl)))))
theorem S_get_nodeinfo {ad : Ad} (F : FactsL TS ad) (hh : A.handled = none) : SimF prog w TS (n + 3) A (.ref ad.get) (P_get_nodeinfo ad) := by
  obtain ⟨o, fd, H, hb⟩ := F.fn_get_nodeinfo
  exact sim_def H hh (bind_plain hb) (names_okP (by kernel_rfl)) (fun A' L q cd hh' => Q_get_nodeinfo F hh')
def B_add (ad : Ad) : PTx LF :=
  (pseq
  (pif (pbind (pbind (pget "self") (pgetD ad.CT "_ready_nodes")) fun a => pbind (pret .none) fun b => pisNotNone a b) pfail (pret .next))
  (pseq
  (pbind (pbind (pget "self") fun a9 => pbind (pisinst ad.CT "_get_nodeinfo" a9) fun _ => pbind (pbind (pget "node") fun a => pbind (pret []) fun as => pret (a :: as)) fun as => P_get_nodeinfo ad (a9 :: as)) fun v => pbind (pset "nodeinfo" v) fun _ => pret .next)
  (pseq
  (pbind (pget "nodeinfo") fun a9 => pbind (pgetS ad.CN 1 a9) fun u => pbind (pbind (pbind (pget "predecessors") fun a => pbind (pret []) fun as => pret (a :: as)) plen) fun v => pbind (padd u v) fun z => pbind (psetS ad.CN 1 a9 z) fun _ => pret .next)
  (pfor (pbind (pget "predecessors") ptitems) (pset "pred") (pseq
  (pbind (pbind (pget "self") fun a9 => pbind (pisinst ad.CT "_get_nodeinfo" a9) fun _ => pbind (pbind (pget "pred") fun a => pbind (pret []) fun as => pret (a :: as)) fun as => P_get_nodeinfo ad (a9 :: as)) fun v => pbind (pset "pred_info" v) fun _ => pret .next)
  (pbind (pbind (pbind (pget "pred_info") (pgetS ad.CN 2)) fun a => pbind (pislist a) fun _ => pbind (pbind (pget "node") fun a => pbind (pret []) fun as => pret (a :: as)) fun as => plappend a as) fun _ => pret .next)) (pret .next)))))
abbrev P_add (ad : Ad) : List LV → PTx LV := pdef (bndV ["self", "node"] "predecessors") (B_add ad)
theorem Q_add {ad : Ad} (F : FactsL TS ad) (hh : A.handled = none) {L f : Addr} {q : Str} {cd : Value} : Sim prog w TS (n + 3) A (fenv (fnScope (inAt (fnAt PySem.Challenge.pw_nq0219_02 8) 2)) L q f cd) (execs (fnBody (inAt (fnAt PySem.Challenge.pw_nq0219_02 8) 2)) (fenv (fnScope (inAt (fnAt PySem.Challenge.pw_nq0219_02 8) 2)) L q f cd)) FlRel (B_add ad) :=
  (sim_cons
  (sim_If (sim_test_Compare (sim_Attr (sim_Name (x := "self") (by kernel_rfl)) (sim_getD (F.pgT _) F.hdT F.at_ready_nodes) (by with_unfolding_all rfl)) sim_none sim_isNotNone rfl) (sim_one sim_fail) sim_nil)
  (sim_cons
  (sim_Assign_Name (x := "nodeinfo") (.inl (by kernel_rfl)) (sim_CallMeth (F.pgT _) F.m_get_nodeinfo.f F.m_get_nodeinfo.n F.m_get_nodeinfo.k rfl rfl rfl (sim_Name (x := "self") (by kernel_rfl)) (sim_arg (sim_Name (x := "node") (by kernel_rfl)) sim_arg_nil rfl) (S_get_nodeinfo F hh)) (by kernel_rfl))
  (sim_cons
  (sim_AugAttr (sim_Name (x := "nodeinfo") (by kernel_rfl)) (sim_getS (F.pgN _) F.clN F.snpredecessors.f F.snpredecessors.g F.snpredecessors.t F.snpredecessors.s) (sim_CallB F.gl_len rfl (by kernel_rfl) (by kernel_rfl) rfl (sim_arg (sim_Name (x := "predecessors") (by kernel_rfl)) sim_arg_nil rfl) sim_len) sim_iadd (sim_setS F.stN F.poN F.snpredecessors.k F.snpredecessors.y F.snpredecessors.s (by decide)))
  (sim_one (sim_For rfl (it_tuple hh (sim_Name (x := "predecessors") (by kernel_rfl))) (sim_tName (x := "pred") (.inl (by kernel_rfl))) (sim_cons
  (sim_Assign_Name (x := "pred_info") (.inl (by kernel_rfl)) (sim_CallMeth (F.pgT _) F.m_get_nodeinfo.f F.m_get_nodeinfo.n F.m_get_nodeinfo.k rfl rfl rfl (sim_Name (x := "self") (by kernel_rfl)) (sim_arg (sim_Name (x := "pred") (by kernel_rfl)) sim_arg_nil rfl) (S_get_nodeinfo F hh)) (by kernel_rfl))
  (sim_one (sim_Expr (sim_CallM PySem.F.plainAttrs_list PySem.F.slot_list_append PySem.F.type_list_append rfl rfl rfl rfl (sim_Attr (sim_Name (x := "pred_info") (by kernel_rfl)) (sim_getS (F.pgN _) F.clN F.ssuccessors.f F.ssuccessors.g F.ssuccessors.t F.ssuccessors.s) (by with_unfolding_all rfl)) isOf_list (sim_arg (sim_Name (x := "node") (by kernel_rfl)) sim_arg_nil rfl) sim_append) rfl rfl))) sim_nil (fun _ => rfl))))))
theorem S_add {ad : Ad} (F : FactsL TS ad) (hh : A.handled = none) : SimF prog w TS (n + 4) A (.ref ad.add) (P_add ad) := by
  obtain ⟨o, fd, H, hp, hd⟩ := F.fn_add
  exact sim_def H hh (bind_vararg fun pre rest hl => va_add hp hd pre rest hl) (names_okV (by kernel_rfl)) (fun A' L q cd hh' => Q_add F hh')
def B_initT (ad : Ad) : PTx LF :=
  (pseq
  (pbind pdict0 fun v => pbind (pget "self") fun a9 => pbind (psetD ad.CT "_node2info" a9 v) fun _ => pret .next)
  (pseq
  (pbind (pret .none) fun v => pbind (pget "self") fun a9 => pbind (psetD ad.CT "_ready_nodes" a9 v) fun _ => pret .next)
  (pseq
  (pbind (pret (.int 0)) fun v => pbind (pget "self") fun a9 => pbind (psetD ad.CT "_npassedout" a9 v) fun _ => pret .next)
  (pseq
  (pbind (pret (.int 0)) fun v => pbind (pget "self") fun a9 => pbind (psetD ad.CT "_nfinished" a9 v) fun _ => pret .next)
  (pif (pbind (pget "graph") fun a => pbind (pret .none) fun b => pisNotNone a b) (pfor (pbind (pget "graph") fun a => pbind (pisdict a) fun _ => pents a) (ptupT [(pset "node"), (pset "predecessors")]) (pbind (pbind (pget "self") fun a9 => pbind (pisinst ad.CT "add" a9) fun _ => pbind (pbind (pget "node") fun a => pbind (pbind (pget "predecessors") pstar) fun as => pret (a :: as)) fun as => P_add ad (a9 :: as)) fun _ => pret .next) (pret .next)) (pret .next))))))
abbrev P_initT (ad : Ad) : List LV → PTx LV := pdef (bndP ["self", "graph"]) (B_initT ad)
theorem Q_initT {ad : Ad} (F : FactsL TS ad) (hh : A.handled = none) {L f : Addr} {q : Str} {cd : Value} : Sim prog w TS (n + 4) A (fenv (fnScope (inAt (fnAt PySem.Challenge.pw_nq0219_02 8) 0)) L q f cd) (execs (fnBody (inAt (fnAt PySem.Challenge.pw_nq0219_02 8) 0)) (fenv (fnScope (inAt (fnAt PySem.Challenge.pw_nq0219_02 8) 0)) L q f cd)) FlRel (B_initT ad) :=
  (sim_cons
  (sim_AssignAttr sim_Dict0 (sim_Name (x := "self") (by kernel_rfl)) (sim_setD F.stT F.poT (taker_none F.at_node2info) F.hdT) rfl)
  (sim_cons
  (sim_AssignAttr sim_none (sim_Name (x := "self") (by kernel_rfl)) (sim_setD F.stT F.poT (taker_none F.at_ready_nodes) F.hdT) rfl)
  (sim_cons
  (sim_AssignAttr sim_int (sim_Name (x := "self") (by kernel_rfl)) (sim_setD F.stT F.poT (taker_none F.at_npassedout) F.hdT) rfl)
  (sim_cons
  (sim_AssignAttr sim_int (sim_Name (x := "self") (by kernel_rfl)) (sim_setD F.stT F.poT (taker_none F.at_nfinished) F.hdT) rfl)
  (sim_one (sim_If (sim_test_Compare (sim_Name (x := "graph") (by kernel_rfl)) sim_none sim_isNotNone rfl) (sim_one (sim_For rfl (it_ents hh rfl rfl (sim_Name (x := "graph") (by kernel_rfl))) (sim_tTuple hh (.cons (sim_tName (x := "node") (.inl (by kernel_rfl))) (.cons (sim_tName (x := "predecessors") (.inl (by kernel_rfl))) .nil))) (sim_one (sim_Expr (sim_CallMethS (F.pgT _) F.hdT F.m_add.f F.m_add.g F.m_add.t F.m_add.y F.m_add.i (by decide +kernel) rfl rfl rfl rfl (sim_Name (x := "self") (by kernel_rfl)) (sim_arg (sim_Name (x := "node") (by kernel_rfl)) (sim_arg_star (sim_Name (x := "predecessors") (by kernel_rfl)) rfl) rfl) (S_add F hh)) rfl rfl)) sim_nil (fun _ => rfl))) sim_nil))))))
theorem S_initT {ad : Ad} (F : FactsL TS ad) (hh : A.handled = none) : SimF prog w TS (n + 5) A (.ref ad.initT) (P_initT ad) := by
  obtain ⟨o, fd, H, hb⟩ := F.fn_initT
  exact sim_def H hh (bind_plain hb) (names_okP (by kernel_rfl)) (fun A' L q cd hh' => Q_initT F hh')
abbrev P_T (ad : Ad) : List LV → PTx LV := pmake ad.CT (P_initT ad)
theorem up_T {ad : Ad} (F : FactsL TS ad) (hh : A.handled = none) : SimF prog w TS (n + 6) A (.ref ad.CT) (P_T ad) := sim_make F.mkT F.inT F.tiT hh fun A' h' => S_initT F h'
def B_get_ready (ad : Ad) : PTx LF :=
  (pseq
  (pif (pbind (pbind (pget "self") (pgetD ad.CT "_ready_nodes")) fun a => pbind (pret .none) fun b => pisNone a b) pfail (pret .next))
  (pseq
  (pbind (pbind (pbind (pbind (pget "self") (pgetD ad.CT "_ready_nodes")) fun a => pbind (pret []) fun as => pret (a :: as)) ptupof) fun v => pbind (pset "result" v) fun _ => pret .next)
  (pseq
  (pbind (pbind (pget "self") (pgetD ad.CT "_node2info")) fun v => pbind (pset "n2i" v) fun _ => pret .next)
  (pseq
  (pfor (pbind (pget "result") ptitems) (pset "node") (pbind (pret (.int (-1))) fun v => pbind (pbind (pget "n2i") fun a => pbind (pget "node") fun b => pdget a b) fun a9 => pbind (psetS ad.CN 1 a9 v) fun _ => pret .next) (pret .next))
  (pseq
  (pbind (pbind (pbind (pget "self") (pgetD ad.CT "_ready_nodes")) fun a => pbind (pislist a) fun _ => pbind (pret []) fun as => plclear a as) fun _ => pret .next)
  (pseq
  (pbind (pget "self") fun a9 => pbind (pgetD ad.CT "_npassedout" a9) fun u => pbind (pbind (pbind (pget "result") fun a => pbind (pret []) fun as => pret (a :: as)) plen) fun v => pbind (padd u v) fun z => pbind (psetD ad.CT "_npassedout" a9 z) fun _ => pret .next)
  (pbind (pget "result") fun v => pret (.ret v))))))))
abbrev P_get_ready (ad : Ad) : List LV → PTx LV := pdef (bndP ["self"]) (B_get_ready ad)
theorem Q_get_ready {ad : Ad} (F : FactsL TS ad) (hh : A.handled = none) {L f : Addr} {q : Str} {cd : Value} : Sim prog w TS (n + 0) A (fenv (fnScope (inAt (fnAt PySem.Challenge.pw_nq0219_02 8) 4)) L q f cd) (execs (fnBody (inAt (fnAt PySem.Challenge.pw_nq0219_02 8) 4)) (fenv (fnScope (inAt (fnAt PySem.Challenge.pw_nq0219_02 8) 4)) L q f cd)) FlRel (B_get_ready ad) :=
  (sim_cons
  (sim_If (sim_test_Compare (sim_Attr (sim_Name (x := "self") (by kernel_rfl)) (sim_getD (F.pgT _) F.hdT F.at_ready_nodes) (by with_unfolding_all rfl)) sim_none sim_isNone rfl) (sim_one sim_fail) sim_nil)
  (sim_cons
  (sim_Assign_Name (x := "result") (.inl (by kernel_rfl)) (sim_CallB F.gl_tuple rfl (by kernel_rfl) (by kernel_rfl) rfl (sim_arg (sim_Attr (sim_Name (x := "self") (by kernel_rfl)) (sim_getD (F.pgT _) F.hdT F.at_ready_nodes) (by with_unfolding_all rfl)) sim_arg_nil rfl) sim_tupof) (by kernel_rfl))
  (sim_cons
  (sim_Assign_Name (x := "n2i") (.inl (by kernel_rfl)) (sim_Attr (sim_Name (x := "self") (by kernel_rfl)) (sim_getD (F.pgT _) F.hdT F.at_node2info) (by with_unfolding_all rfl)) (by kernel_rfl))
  (sim_cons
  (sim_For rfl (it_tuple hh (sim_Name (x := "result") (by kernel_rfl))) (sim_tName (x := "node") (.inl (by kernel_rfl))) (sim_one (sim_AssignAttr (sim_globInt F.gl_NODE_OUT (by kernel_rfl) (by kernel_rfl)) (sim_Subscript (sim_Name (x := "n2i") (by kernel_rfl)) (sim_Name (x := "node") (by kernel_rfl)) (tail_pdget (fun _ _ => rfl))) (sim_setS F.stN F.poN F.snpredecessors.k F.snpredecessors.y F.snpredecessors.s (by decide)) rfl)) sim_nil (fun _ => rfl))
  (sim_cons
  (sim_Expr (sim_CallM PySem.F.plainAttrs_list PySem.F.slot_list_clear PySem.F.type_list_clear rfl rfl rfl rfl (sim_Attr (sim_Name (x := "self") (by kernel_rfl)) (sim_getD (F.pgT _) F.hdT F.at_ready_nodes) (by with_unfolding_all rfl)) isOf_list sim_arg_nil sim_clear) rfl rfl)
  (sim_cons
  (sim_AugAttr (sim_Name (x := "self") (by kernel_rfl)) (sim_getD (F.pgT _) F.hdT F.at_npassedout) (sim_CallB F.gl_len rfl (by kernel_rfl) (by kernel_rfl) rfl (sim_arg (sim_Name (x := "result") (by kernel_rfl)) sim_arg_nil rfl) sim_len) sim_iadd (sim_setD F.stT F.poT (taker_none F.at_npassedout) F.hdT))
  (sim_one (sim_Return (sim_Name (x := "result") (by kernel_rfl))))))))))
theorem S_get_ready {ad : Ad} (F : FactsL TS ad) (hh : A.handled = none) : SimF prog w TS (n + 1) A (.ref ad.ready) (P_get_ready ad) := by
  obtain ⟨o, fd, H, hb⟩ := F.fn_get_ready
  exact sim_def H hh (bind_plain hb) (names_okP (by kernel_rfl)) (fun A' L q cd hh' => Q_get_ready F hh')
def B_is_active (ad : Ad) : PTx LF :=
  (pseq
  (pif (pbind (pbind (pget "self") (pgetD ad.CT "_ready_nodes")) fun a => pbind (pret .none) fun b => pisNone a b) pfail (pret .next))
  (pbind (pbind (pbind (pbind (pget "self") (pgetD ad.CT "_nfinished")) fun a => pbind (pbind (pget "self") (pgetD ad.CT "_npassedout")) fun b => pbind (plt a b) fun z => pret (.bool z)) fun a => pbind (ptruth a) fun b => fun Q E σ => if b = true then Q a σ else (pbind (pbind (pbind (pget "self") (pgetD ad.CT "_ready_nodes")) fun a => pbind (pret []) fun as => pret (a :: as)) pbool) Q E σ) fun v => pret (.ret v)))
abbrev P_is_active (ad : Ad) : List LV → PTx LV := pdef (bndP ["self"]) (B_is_active ad)
theorem Q_is_active {ad : Ad} (F : FactsL TS ad) (hh : A.handled = none) {L f : Addr} {q : Str} {cd : Value} : Sim prog w TS (n + 0) A (fenv (fnScope (inAt (fnAt PySem.Challenge.pw_nq0219_02 8) 5)) L q f cd) (execs (fnBody (inAt (fnAt PySem.Challenge.pw_nq0219_02 8) 5)) (fenv (fnScope (inAt (fnAt PySem.Challenge.pw_nq0219_02 8) 5)) L q f cd)) FlRel (B_is_active ad) :=
  (sim_cons
  (sim_If (sim_test_Compare (sim_Attr (sim_Name (x := "self") (by kernel_rfl)) (sim_getD (F.pgT _) F.hdT F.at_ready_nodes) (by with_unfolding_all rfl)) sim_none sim_isNone rfl) (sim_one sim_fail) sim_nil)
  (sim_one (sim_Return (sim_Or (sim_Compare (sim_Attr (sim_Name (x := "self") (by kernel_rfl)) (sim_getD (F.pgT _) F.hdT F.at_nfinished) (by with_unfolding_all rfl)) (sim_Attr (sim_Name (x := "self") (by kernel_rfl)) (sim_getD (F.pgT _) F.hdT F.at_npassedout) (by with_unfolding_all rfl)) sim_lt rfl) sim_truth (sim_CallB F.gl_bool rfl (by kernel_rfl) (by kernel_rfl) rfl (sim_arg (sim_Attr (sim_Name (x := "self") (by kernel_rfl)) (sim_getD (F.pgT _) F.hdT F.at_ready_nodes) (by with_unfolding_all rfl)) sim_arg_nil rfl) sim_boolC)))))
theorem S_is_active {ad : Ad} (F : FactsL TS ad) (hh : A.handled = none) : SimF prog w TS (n + 1) A (.ref ad.active) (P_is_active ad) := by
  obtain ⟨o, fd, H, hb⟩ := F.fn_is_active
  exact sim_def H hh (bind_plain hb) (names_okP (by kernel_rfl)) (fun A' L q cd hh' => Q_is_active F hh')
def B_done (ad : Ad) : PTx LF :=
  (pseq
  (pif (pbind (pbind (pget "self") (pgetD ad.CT "_ready_nodes")) fun a => pbind (pret .none) fun b => pisNone a b) pfail (pret .next))
  (pseq
  (pbind (pbind (pget "self") (pgetD ad.CT "_node2info")) fun v => pbind (pset "n2i" v) fun _ => pret .next)
  (pfor (pbind (pget "nodes") ptitems) (pset "node") (pseq
  (pif (pbind (pbind (pbind (pget "n2i") fun a => pbind (pisdict a) fun _ => pbind (pbind (pget "node") fun a => pbind (pret []) fun as => pret (a :: as)) fun as => pdget1 a as) fun v => pbind ((pset "nodeinfo") v) fun _ => pret v) fun a => pbind (pret .none) fun b => pisNone a b) pfail (pret .next))
  (pseq
  (pbind (pbind (pget "nodeinfo") (pgetS ad.CN 1)) fun v => pbind (pset "stat" v) fun _ => pret .next)
  (pseq
  (pif (pbind (pget "stat") fun a => pbind (pret (.int (-1))) fun b => pne a b) (pif (pbind (pget "stat") fun a => pbind (pret (.int 0)) fun b => pge a b) pfail (pif (pbind (pget "stat") fun a => pbind (pret (.int (-2))) fun b => peq a b) pfail pfail)) (pret .next))
  (pseq
  (pbind (pret (.int (-2))) fun v => pbind (pget "nodeinfo") fun a9 => pbind (psetS ad.CN 1 a9 v) fun _ => pret .next)
  (pseq
  (pfor (pbind (pbind (pget "nodeinfo") (pgetS ad.CN 2)) pitems) (pset "successor") (pseq
  (pbind (pbind (pget "n2i") fun a => pbind (pget "successor") fun b => pdget a b) fun v => pbind (pset "successor_info" v) fun _ => pret .next)
  (pseq
  (pbind (pget "successor_info") fun a9 => pbind (pgetS ad.CN 1 a9) fun u => pbind (pret (.int 1)) fun v => pbind (psub u v) fun z => pbind (psetS ad.CN 1 a9 z) fun _ => pret .next)
  (pif (pbind (pbind (pget "successor_info") (pgetS ad.CN 1)) fun a => pbind (pret (.int 0)) fun b => peq a b) (pbind (pbind (pbind (pget "self") (pgetD ad.CT "_ready_nodes")) fun a => pbind (pislist a) fun _ => pbind (pbind (pget "successor") fun a => pbind (pret []) fun as => pret (a :: as)) fun as => plappend a as) fun _ => pret .next) (pret .next)))) (pret .next))
  (pbind (pget "self") fun a9 => pbind (pgetD ad.CT "_nfinished" a9) fun u => pbind (pret (.int 1)) fun v => pbind (padd u v) fun z => pbind (psetD ad.CT "_nfinished" a9 z) fun _ => pret .next)))))) (pret .next))))
abbrev P_done (ad : Ad) : List LV → PTx LV := pdef (bndV ["self"] "nodes") (B_done ad)
theorem Q_done {ad : Ad} (F : FactsL TS ad) (hh : A.handled = none) {L f : Addr} {q : Str} {cd : Value} : Sim prog w TS (n + 0) A (fenv (fnScope (inAt (fnAt PySem.Challenge.pw_nq0219_02 8) 7)) L q f cd) (execs (fnBody (inAt (fnAt PySem.Challenge.pw_nq0219_02 8) 7)) (fenv (fnScope (inAt (fnAt PySem.Challenge.pw_nq0219_02 8) 7)) L q f cd)) FlRel (B_done ad) :=
  (sim_cons
  (sim_If (sim_test_Compare (sim_Attr (sim_Name (x := "self") (by kernel_rfl)) (sim_getD (F.pgT _) F.hdT F.at_ready_nodes) (by with_unfolding_all rfl)) sim_none sim_isNone rfl) (sim_one sim_fail) sim_nil)
  (sim_cons
  (sim_Assign_Name (x := "n2i") (.inl (by kernel_rfl)) (sim_Attr (sim_Name (x := "self") (by kernel_rfl)) (sim_getD (F.pgT _) F.hdT F.at_node2info) (by with_unfolding_all rfl)) (by kernel_rfl))
  (sim_one (sim_For rfl (it_tuple hh (sim_Name (x := "nodes") (by kernel_rfl))) (sim_tName (x := "node") (.inl (by kernel_rfl))) (sim_cons
  (sim_If (sim_test_Compare (sim_NamedExpr (sim_CallM PySem.F.plainAttrs_dict PySem.F.slot_dict_get PySem.F.type_dict_get rfl rfl rfl rfl (sim_Name (x := "n2i") (by kernel_rfl)) isOf_dict (sim_arg (sim_Name (x := "node") (by kernel_rfl)) sim_arg_nil rfl) sim_get1) (sim_tName (x := "nodeinfo") (.inl (by kernel_rfl)))) sim_none sim_isNone rfl) (sim_one sim_fail) sim_nil)
  (sim_cons
  (sim_Assign_Name (x := "stat") (.inl (by kernel_rfl)) (sim_Attr (sim_Name (x := "nodeinfo") (by kernel_rfl)) (sim_getS (F.pgN _) F.clN F.snpredecessors.f F.snpredecessors.g F.snpredecessors.t F.snpredecessors.s) (by with_unfolding_all rfl)) (by kernel_rfl))
  (sim_cons
  (sim_If (sim_test_Compare (sim_Name (x := "stat") (by kernel_rfl)) (sim_globInt F.gl_NODE_OUT (by kernel_rfl) (by kernel_rfl)) sim_ne rfl) (sim_one (sim_If (sim_test_Compare (sim_Name (x := "stat") (by kernel_rfl)) sim_int sim_ge rfl) (sim_one sim_fail) (sim_one (sim_If (sim_test_Compare (sim_Name (x := "stat") (by kernel_rfl)) (sim_globInt F.gl_NODE_DONE (by kernel_rfl) (by kernel_rfl)) sim_eq rfl) (sim_one sim_fail) (sim_one sim_fail))))) sim_nil)
  (sim_cons
  (sim_AssignAttr (sim_globInt F.gl_NODE_DONE (by kernel_rfl) (by kernel_rfl)) (sim_Name (x := "nodeinfo") (by kernel_rfl)) (sim_setS F.stN F.poN F.snpredecessors.k F.snpredecessors.y F.snpredecessors.s (by decide)) rfl)
  (sim_cons
  (sim_For rfl (it_list hh (sim_Attr (sim_Name (x := "nodeinfo") (by kernel_rfl)) (sim_getS (F.pgN _) F.clN F.ssuccessors.f F.ssuccessors.g F.ssuccessors.t F.ssuccessors.s) (by with_unfolding_all rfl))) (sim_tName (x := "successor") (.inl (by kernel_rfl))) (sim_cons
  (sim_Assign_Name (x := "successor_info") (.inl (by kernel_rfl)) (sim_Subscript (sim_Name (x := "n2i") (by kernel_rfl)) (sim_Name (x := "successor") (by kernel_rfl)) (tail_pdget (fun _ _ => rfl))) (by kernel_rfl))
  (sim_cons
  (sim_AugAttr (sim_Name (x := "successor_info") (by kernel_rfl)) (sim_getS (F.pgN _) F.clN F.snpredecessors.f F.snpredecessors.g F.snpredecessors.t F.snpredecessors.s) sim_int sim_isub (sim_setS F.stN F.poN F.snpredecessors.k F.snpredecessors.y F.snpredecessors.s (by decide)))
  (sim_one (sim_If (sim_test_Compare (sim_Attr (sim_Name (x := "successor_info") (by kernel_rfl)) (sim_getS (F.pgN _) F.clN F.snpredecessors.f F.snpredecessors.g F.snpredecessors.t F.snpredecessors.s) (by with_unfolding_all rfl)) sim_int sim_eq rfl) (sim_one (sim_Expr (sim_CallM PySem.F.plainAttrs_list PySem.F.slot_list_append PySem.F.type_list_append rfl rfl rfl rfl (sim_Attr (sim_Name (x := "self") (by kernel_rfl)) (sim_getD (F.pgT _) F.hdT F.at_ready_nodes) (by with_unfolding_all rfl)) isOf_list (sim_arg (sim_Name (x := "successor") (by kernel_rfl)) sim_arg_nil rfl) sim_append) rfl rfl)) sim_nil)))) sim_nil (fun _ => rfl))
  (sim_one (sim_AugAttr (sim_Name (x := "self") (by kernel_rfl)) (sim_getD (F.pgT _) F.hdT F.at_nfinished) sim_int sim_iadd (sim_setD F.stT F.poT (taker_none F.at_nfinished) F.hdT)))))))) sim_nil (fun _ => rfl)))))
theorem S_done {ad : Ad} (F : FactsL TS ad) (hh : A.handled = none) : SimF prog w TS (n + 1) A (.ref ad.done) (P_done ad) := by
  obtain ⟨o, fd, H, hp, hd⟩ := F.fn_done
  exact sim_def H hh (bind_vararg fun pre rest hl => va_done hp hd pre rest hl) (names_okV (by kernel_rfl)) (fun A' L q cd hh' => Q_done F hh')
def B_find_cycle (ad : Ad) : PTx LF :=
  (pseq
  (pbind (pbind (pget "self") (pgetD ad.CT "_node2info")) fun v => pbind (pset "n2i" v) fun _ => pret .next)
  (pseq
  (pbind (pbind (pret []) plist) fun v => pbind (pset "stack" v) fun _ => pret .next)
  (pseq
  (pbind (pbind (pret []) plist) fun v => pbind (pset "itstack" v) fun _ => pret .next)
  (pseq
  (pbind (pbind (pret []) pset0) fun v => pbind (pset "seen" v) fun _ => pret .next)
  (pseq
  (pbind pdict0 fun v => pbind (pset "node2stacki" v) fun _ => pret .next)
  (pseq
  (pfor (pbind (pget "n2i") pkeys) (pset "node") (pseq
  (pif (pbind (pget "node") fun a => pbind (pget "seen") fun b => psin a b) (pret .cont) (pret .next))
  (pwhile (pbind (pret (.bool true)) ptruth) (pseq
  (pif (pbind (pget "node") fun a => pbind (pget "seen") fun b => psin a b) (pif (pbind (pget "node") fun a => pbind (pget "node2stacki") fun b => pdin a b) pfail (pret .next)) (pseq
  (pbind (pbind (pget "seen") fun a => pbind (pisset a) fun _ => pbind (pbind (pget "node") fun a => pbind (pret []) fun as => pret (a :: as)) fun as => psadd a as) fun _ => pret .next)
  (pseq
  (pbind (pbind (pget "itstack") fun a => pbind (pislist a) fun _ => pbind (pbind (pbind (pbind (pbind (pbind (pbind (pget "n2i") fun a => pbind (pget "node") fun b => pdget a b) (pgetS ad.CN 2)) fun a => pbind (pret []) fun as => pret (a :: as)) piter) pnextof) fun a => pbind (pret []) fun as => pret (a :: as)) fun as => plappend a as) fun _ => pret .next)
  (pseq
  (pbind (pbind (pbind (pget "stack") fun a => pbind (pret []) fun as => pret (a :: as)) plen) fun v => pbind ((fun v => pbind (pget "node2stacki") fun a => pbind (pget "node") fun b => pdset a b v) v) fun _ => pret .next)
  (pbind (pbind (pget "stack") fun a => pbind (pislist a) fun _ => pbind (pbind (pget "node") fun a => pbind (pret []) fun as => pret (a :: as)) fun as => plappend a as) fun _ => pret .next)))))
  (pwhile (pbind (pget "stack") ptruth) (fun Q E σ => (pseq
  (pbind (pbind (pbind (pget "itstack") fun a => pbind (pbind (pret (.int 1)) pneg) fun b => pllast a b) pnextc) fun v => pbind (pset "node" v) fun _ => pret .next)
  (pret .brk)) Q (fun x σ' => x.name = "StopIteration" ∧ (pseq
  (pbind (pget "node2stacki") fun a => pbind (pbind (pget "stack") fun a => pbind (pislist a) fun _ => pbind (pret []) fun as => plpop a as) fun b => pbind (pddel a b) fun _ => pret .next)
  (pbind (pbind (pget "itstack") fun a => pbind (pislist a) fun _ => pbind (pret []) fun as => plpop a as) fun _ => pret .next)) Q noE σ') σ) (pret .brk))) (pret .next))) (pret .next))
  (pbind (pret .none) fun v => pret (.ret v))))))))
abbrev P_find_cycle (ad : Ad) : List LV → PTx LV := pdef (bndP ["self"]) (B_find_cycle ad)
theorem Q_find_cycle {ad : Ad} (F : FactsL TS ad) (hh : A.handled = none) {L f : Addr} {q : Str} {cd : Value} : Sim prog w TS (n + 0) A (fenv (fnScope (inAt (fnAt PySem.Challenge.pw_nq0219_02 8) 8)) L q f cd) (execs (fnBody (inAt (fnAt PySem.Challenge.pw_nq0219_02 8) 8)) (fenv (fnScope (inAt (fnAt PySem.Challenge.pw_nq0219_02 8) 8)) L q f cd)) FlRel (B_find_cycle ad) :=
  (sim_cons
  (sim_Assign_Name (x := "n2i") (.inl (by kernel_rfl)) (sim_Attr (sim_Name (x := "self") (by kernel_rfl)) (sim_getD (F.pgT _) F.hdT F.at_node2info) (by with_unfolding_all rfl)) (by kernel_rfl))
  (sim_cons
  (sim_Assign_Name (x := "stack") (.inl (by kernel_rfl)) (sim_List sim_arg_nil) (by kernel_rfl))
  (sim_cons
  (sim_Assign_Name (x := "itstack") (.inl (by kernel_rfl)) (sim_List sim_arg_nil) (by kernel_rfl))
  (sim_cons
  (sim_Assign_Name (x := "seen") (.inl (by kernel_rfl)) (sim_CallB F.gl_set rfl (by kernel_rfl) (by kernel_rfl) rfl sim_arg_nil sim_set0) (by kernel_rfl))
  (sim_cons
  (sim_Assign_Name (x := "node2stacki") (.inl (by kernel_rfl)) sim_Dict0 (by kernel_rfl))
  (sim_cons
  (sim_For rfl (it_keys hh (sim_Name (x := "n2i") (by kernel_rfl))) (sim_tName (x := "node") (.inl (by kernel_rfl))) (sim_cons
  (sim_If (sim_test_Compare (sim_Name (x := "node") (by kernel_rfl)) (sim_Name (x := "seen") (by kernel_rfl)) sim_psin rfl) (sim_one sim_Continue) sim_nil)
  (sim_one (sim_While rfl (sim_test_val sim_bool sim_truth rfl) (sim_cons
  (sim_If (sim_test_Compare (sim_Name (x := "node") (by kernel_rfl)) (sim_Name (x := "seen") (by kernel_rfl)) sim_psin rfl) (sim_one (sim_If (sim_test_Compare (sim_Name (x := "node") (by kernel_rfl)) (sim_Name (x := "node2stacki") (by kernel_rfl)) sim_pdin rfl) (sim_one sim_fail) sim_nil)) (sim_cons
  (sim_Expr (sim_CallM PySem.F.plainAttrs_set PySem.F.slot_set_add PySem.F.type_set_add rfl rfl rfl rfl (sim_Name (x := "seen") (by kernel_rfl)) isOf_set (sim_arg (sim_Name (x := "node") (by kernel_rfl)) sim_arg_nil rfl) sim_sadd) rfl rfl)
  (sim_cons
  (sim_Expr (sim_CallM PySem.F.plainAttrs_list PySem.F.slot_list_append PySem.F.type_list_append rfl rfl rfl rfl (sim_Name (x := "itstack") (by kernel_rfl)) isOf_list (sim_arg (sim_Attr (sim_CallB F.gl_iter rfl (by kernel_rfl) (by kernel_rfl) rfl (sim_arg (sim_Attr (sim_Subscript (sim_Name (x := "n2i") (by kernel_rfl)) (sim_Name (x := "node") (by kernel_rfl)) (tail_pdget (fun _ _ => rfl))) (sim_getS (F.pgN _) F.clN F.ssuccessors.f F.ssuccessors.g F.ssuccessors.t F.ssuccessors.s) (by with_unfolding_all rfl)) sim_arg_nil rfl) sim_iter) sim_nextof (by with_unfolding_all rfl)) sim_arg_nil rfl) sim_append) rfl rfl)
  (sim_cons
  (sim_Assign (sim_CallB F.gl_len rfl (by kernel_rfl) (by kernel_rfl) rfl (sim_arg (sim_Name (x := "stack") (by kernel_rfl)) sim_arg_nil rfl) sim_len) (sim_tSub (sim_Name (x := "node2stacki") (by kernel_rfl)) (sim_Name (x := "node") (by kernel_rfl)) sim_pdset) rfl rfl rfl)
  (sim_one (sim_Expr (sim_CallM PySem.F.plainAttrs_list PySem.F.slot_list_append PySem.F.type_list_append rfl rfl rfl rfl (sim_Name (x := "stack") (by kernel_rfl)) isOf_list (sim_arg (sim_Name (x := "node") (by kernel_rfl)) sim_arg_nil rfl) sim_append) rfl rfl))))))
  (sim_one (sim_While rfl (sim_test_val (sim_Name (x := "stack") (by kernel_rfl)) sim_truth rfl) (sim_one (sim_TryExcept rfl F.gl_StopIteration (by kernel_rfl) (by kernel_rfl) ex_StopIteration.1 ex_StopIteration.2.1 ex_StopIteration.2.2 (sim_cons
  (sim_Assign_Name (x := "node") (.inl (by kernel_rfl)) (sim_CallV hh (sim_Subscript (sim_Name (x := "itstack") (by kernel_rfl)) (sim_UnaryOp sim_int sim_neg) (tail_pllast (fun _ _ => rfl))) rfl) (by kernel_rfl))
  (sim_one sim_Break)) (fun e0 => (sim_cons
  (sim_Delete (sim_Name (x := "node2stacki") (by kernel_rfl)) (sim_CallM PySem.F.plainAttrs_list PySem.F.slot_list_pop PySem.F.type_list_pop rfl rfl rfl rfl (sim_Name (x := "stack") (by kernel_rfl)) isOf_list sim_arg_nil sim_pop) sim_pddel)
  (sim_one (sim_Expr (sim_CallM PySem.F.plainAttrs_list PySem.F.slot_list_pop PySem.F.type_list_pop rfl rfl rfl rfl (sim_Name (x := "itstack") (by kernel_rfl)) isOf_list sim_arg_nil sim_pop) rfl rfl)))))) (sim_one sim_Break)))) sim_nil))) sim_nil (fun _ => rfl))
  (sim_one (sim_Return sim_none))))))))
theorem S_find_cycle {ad : Ad} (F : FactsL TS ad) (hh : A.handled = none) : SimF prog w TS (n + 1) A (.ref ad.cyc) (P_find_cycle ad) := by
  obtain ⟨o, fd, H, hb⟩ := F.fn_find_cycle
  exact sim_def H hh (bind_plain hb) (names_okP (by kernel_rfl)) (fun A' L q cd hh' => Q_find_cycle F hh')
def B_prepare (ad : Ad) : PTx LF :=
  (pseq
  (pif (pbind (pbind (pget "self") (pgetD ad.CT "_ready_nodes")) fun a => pbind (pret .none) fun b => pisNotNone a b) pfail (pret .next))
  (pseq
  (pbind (pcomp (.list []) (pbind (pbind (pget "self") (pgetD ad.CT "_node2info")) fun a => pbind (pisdict a) fun _ => pvals a) [".0", "i"] (pset "i") (fun D => pwhen (pbind (pbind (pget "i") (pgetS ad.CN 1)) fun a => pbind (pret (.int 0)) fun b => peq a b) (pemit (pbind (pget "i") (pgetS ad.CN 0)) D))) fun v => pbind (pget "self") fun a9 => pbind (psetD ad.CT "_ready_nodes" a9 v) fun _ => pret .next)
  (pseq
  (pbind (pbind (pget "self") fun a9 => pbind (pisinst ad.CT "_find_cycle" a9) fun _ => pbind (pret []) fun as => P_find_cycle ad (a9 :: as)) fun v => pbind (pset "cycle" v) fun _ => pret .next)
  (pif (pbind (pget "cycle") ptruth) pfail (pret .next)))))
abbrev P_prepare (ad : Ad) : List LV → PTx LV := pdef (bndP ["self"]) (B_prepare ad)
theorem Q_prepare {ad : Ad} (F : FactsL TS ad) (hh : A.handled = none) {L f : Addr} {q : Str} {cd : Value} : Sim prog w TS (n + 1) A (fenv (fnScope (inAt (fnAt PySem.Challenge.pw_nq0219_02 8) 3)) L q f cd) (execs (fnBody (inAt (fnAt PySem.Challenge.pw_nq0219_02 8) 3)) (fenv (fnScope (inAt (fnAt PySem.Challenge.pw_nq0219_02 8) 3)) L q f cd)) FlRel (B_prepare ad) :=
  (sim_cons
  (sim_If (sim_test_Compare (sim_Attr (sim_Name (x := "self") (by kernel_rfl)) (sim_getD (F.pgT _) F.hdT F.at_ready_nodes) (by with_unfolding_all rfl)) sim_none sim_isNotNone rfl) (sim_one sim_fail) sim_nil)
  (sim_cons
  (sim_AssignAttr (sim_ListComp (by kernel_rfl) (fun _ => rfl) (it_vals hh rfl rfl (sim_Attr (sim_Name (x := "self") (by kernel_rfl)) (sim_getD (F.pgT _) F.hdT F.at_node2info) (by with_unfolding_all rfl))) ⟨fun C1 => (sim_tName (x := "i") (.inl (by kernel_rfl))), fun C1 => (sim_tests_one (sim_test_Compare (sim_Attr (sim_Name (x := "i") (by kernel_rfl)) (sim_getS (F.pgN _) F.clN F.snpredecessors.f F.snpredecessors.g F.snpredecessors.t F.snpredecessors.s) (by with_unfolding_all rfl)) sim_int sim_eq rfl)), fun C1 => (sim_Attr (sim_Name (x := "i") (by kernel_rfl)) (sim_getS (F.pgN _) F.clN F.snode.f F.snode.g F.snode.t F.snode.s) (by with_unfolding_all rfl))⟩) (sim_Name (x := "self") (by kernel_rfl)) (sim_setD F.stT F.poT (taker_none F.at_ready_nodes) F.hdT) rfl)
  (sim_cons
  (sim_Assign_Name (x := "cycle") (.inl (by kernel_rfl)) (sim_CallMeth (F.pgT _) F.m_find_cycle.f F.m_find_cycle.n F.m_find_cycle.k rfl rfl rfl (sim_Name (x := "self") (by kernel_rfl)) sim_arg_nil (S_find_cycle F hh)) (by kernel_rfl))
  (sim_one (sim_If (sim_test_val (sim_Name (x := "cycle") (by kernel_rfl)) sim_truth rfl) (sim_one sim_fail) sim_nil)))))
theorem S_prepare {ad : Ad} (F : FactsL TS ad) (hh : A.handled = none) : SimF prog w TS (n + 2) A (.ref ad.prep) (P_prepare ad) := by
  obtain ⟨o, fd, H, hb⟩ := F.fn_prepare
  exact sim_def H hh (bind_plain hb) (names_okP (by kernel_rfl)) (fun A' L q cd hh' => Q_prepare F hh')
def B_law_joined (ad : Ad) : PTx LF :=
  (pseq
  (pbind (pbind (pret []) plist) fun v => pbind (pset "whole" v) fun _ => pret .next)
  (pseq
  (pfor (pbind (pget "rows") pitems) (pset "row") (pbind (pbind (pbind (pbind (pget "whole") fun a => pbind (pbind (pbind (pbind (pget "whole") fun a => pbind (pbind (pget "row") fun a => pbind (pret []) fun as => pret (a :: as)) fun as => pret (a :: as)) (P_sorted_list_difference ad)) fun a => pbind (pret (.int 1)) fun b => ptget a b) fun b => pcat a b) fun a => pbind (pret []) fun as => pret (a :: as)) psorted) fun v => pbind (pset "whole" v) fun _ => pret .next) (pret .next))
  (pbind (pget "whole") fun v => pret (.ret v))))
abbrev P_law_joined (ad : Ad) : List LV → PTx LV := pdef (bndP ["rows"]) (B_law_joined ad)
theorem Q_law_joined {ad : Ad} (F : FactsL TS ad) (hh : A.handled = none) {L f : Addr} {q : Str} {cd : Value} : Sim prog w TS (n + 1) A (fenv (fnScope (fnAt PySem.Challenge.pw_nq0219_02 17)) L q f cd) (execs (fnBody (fnAt PySem.Challenge.pw_nq0219_02 17)) (fenv (fnScope (fnAt PySem.Challenge.pw_nq0219_02 17)) L q f cd)) FlRel (B_law_joined ad) :=
  (sim_cons
  (sim_Assign_Name (x := "whole") (.inl (by kernel_rfl)) (sim_List sim_arg_nil) (by kernel_rfl))
  (sim_cons
  (sim_For rfl (it_list hh (sim_Name (x := "rows") (by kernel_rfl))) (sim_tName (x := "row") (.inl (by kernel_rfl))) (sim_one (sim_Assign_Name (x := "whole") (.inl (by kernel_rfl)) (sim_CallB F.gl_sorted rfl (by kernel_rfl) (by kernel_rfl) rfl (sim_arg (sim_BinOp (sim_Name (x := "whole") (by kernel_rfl)) (sim_Subscript (sim_CallF F.gl_sorted_list_difference F.kp_sorted_list_difference (by kernel_rfl) (by kernel_rfl) rfl rfl (sim_arg (sim_Name (x := "whole") (by kernel_rfl)) (sim_arg (sim_Name (x := "row") (by kernel_rfl)) sim_arg_nil rfl) rfl) (S_sorted_list_difference F hh)) sim_int (tail_ptget (fun _ _ => rfl))) sim_cat) sim_arg_nil rfl) sim_sorted) (by kernel_rfl))) sim_nil (fun _ => rfl))
  (sim_one (sim_Return (sim_Name (x := "whole") (by kernel_rfl))))))
theorem S_law_joined {ad : Ad} (F : FactsL TS ad) (hh : A.handled = none) : SimF prog w TS (n + 2) A (.ref ad.joined) (P_law_joined ad) := by
  obtain ⟨o, fd, H, hb⟩ := F.fn_law_joined
  exact sim_def H hh (bind_plain hb) (names_okP (by kernel_rfl)) (fun A' L q cd hh' => Q_law_joined F hh')
def B_law_parents (ad : Ad) : PTx LF :=
  (pseq
  (pbind pdict0 fun v => pbind (pset "parents" v) fun _ => pret .next)
  (pseq
  (pfor (pbind (pbind (pbind (pret (.int 7)) fun a => pbind (pret []) fun as => pret (a :: as)) prange1) prevr) (pset "place") (pseq
  (pbind (pbind (pret []) plist) fun v => pbind (pset "row" v) fun _ => pret .next)
  (pseq
  (pfor (pbind (pbind (pbind (pbind (pbind (pget "wants") fun a => pbind (pget "place") fun b => plget a b) fun a => pbind (pbind (pget "place") fun a => pbind (pret (.int 1)) fun b => padd a b) fun b => pmod a b) fun a => pbind (pbind (pbind (pbind (pbind (pget "wants") fun a => pbind (pget "place") fun b => plget a b) fun a => pbind (pret (.int 10)) fun b => pdiv a b) fun a => pbind (pbind (pget "place") fun a => pbind (pret (.int 3)) fun b => padd a b) fun b => pmod a b) fun a => pbind (pret []) fun as => pret (a :: as)) fun as => pret (a :: as)) ptuple) ptitems) (pset "pick") (pif (pbind (pbind (pget "pick") fun a => pbind (pget "place") fun b => plt a b) fun b => fun Q E σ => if b = true then (pbind (pbind (pget "names") fun a => pbind (pget "pick") fun b => plget a b) fun a => pbind (pget "row") fun b => plnotin a b) Q E σ else Q false σ) (pbind (pbind (pget "row") fun a => pbind (pislist a) fun _ => pbind (pbind (pbind (pget "names") fun a => pbind (pget "pick") fun b => plget a b) fun a => pbind (pret []) fun as => pret (a :: as)) fun as => plappend a as) fun _ => pret .next) (pret .next)) (pret .next))
  (pbind (pget "row") fun v => pbind ((fun v => pbind (pget "parents") fun a => pbind (pbind (pget "names") fun a => pbind (pget "place") fun b => plget a b) fun b => pdset a b v) v) fun _ => pret .next))) (pret .next))
  (pbind (pget "parents") fun v => pret (.ret v))))
abbrev P_law_parents (ad : Ad) : List LV → PTx LV := pdef (bndP ["wants", "names"]) (B_law_parents ad)
theorem Q_law_parents {ad : Ad} (F : FactsL TS ad) (hh : A.handled = none) {L f : Addr} {q : Str} {cd : Value} : Sim prog w TS (n + 0) A (fenv (fnScope (fnAt PySem.Challenge.pw_nq0219_02 16)) L q f cd) (execs (fnBody (fnAt PySem.Challenge.pw_nq0219_02 16)) (fenv (fnScope (fnAt PySem.Challenge.pw_nq0219_02 16)) L q f cd)) FlRel (B_law_parents ad) :=
  (sim_cons
  (sim_Assign_Name (x := "parents") (.inl (by kernel_rfl)) sim_Dict0 (by kernel_rfl))
  (sim_cons
  (sim_For rfl (it_revr hh F.gl_reversed (by kernel_rfl) rfl (sim_CallB F.gl_range rfl (by kernel_rfl) (by kernel_rfl) rfl (sim_arg sim_int sim_arg_nil rfl) sim_range1)) (sim_tName (x := "place") (.inl (by kernel_rfl))) (sim_cons
  (sim_Assign_Name (x := "row") (.inl (by kernel_rfl)) (sim_List sim_arg_nil) (by kernel_rfl))
  (sim_cons
  (sim_For rfl (it_tuple hh (sim_Tuple (sim_arg (sim_BinOp (sim_Subscript (sim_Name (x := "wants") (by kernel_rfl)) (sim_Name (x := "place") (by kernel_rfl)) (tail_plget (fun _ _ => rfl))) (sim_BinOp (sim_Name (x := "place") (by kernel_rfl)) sim_int sim_add) sim_mod) (sim_arg (sim_BinOp (sim_BinOp (sim_Subscript (sim_Name (x := "wants") (by kernel_rfl)) (sim_Name (x := "place") (by kernel_rfl)) (tail_plget (fun _ _ => rfl))) sim_int sim_div) (sim_BinOp (sim_Name (x := "place") (by kernel_rfl)) sim_int sim_add) sim_mod) sim_arg_nil rfl) rfl))) (sim_tName (x := "pick") (.inl (by kernel_rfl))) (sim_one (sim_If (sim_test_And (sim_test_Compare (sim_Name (x := "pick") (by kernel_rfl)) (sim_Name (x := "place") (by kernel_rfl)) sim_lt rfl) (sim_test_Compare (sim_Subscript (sim_Name (x := "names") (by kernel_rfl)) (sim_Name (x := "pick") (by kernel_rfl)) (tail_plget (fun _ _ => rfl))) (sim_Name (x := "row") (by kernel_rfl)) sim_plnotin rfl)) (sim_one (sim_Expr (sim_CallM PySem.F.plainAttrs_list PySem.F.slot_list_append PySem.F.type_list_append rfl rfl rfl rfl (sim_Name (x := "row") (by kernel_rfl)) isOf_list (sim_arg (sim_Subscript (sim_Name (x := "names") (by kernel_rfl)) (sim_Name (x := "pick") (by kernel_rfl)) (tail_plget (fun _ _ => rfl))) sim_arg_nil rfl) sim_append) rfl rfl)) sim_nil)) sim_nil (fun _ => rfl))
  (sim_one (sim_Assign (sim_Name (x := "row") (by kernel_rfl)) (sim_tSub (sim_Name (x := "parents") (by kernel_rfl)) (sim_Subscript (sim_Name (x := "names") (by kernel_rfl)) (sim_Name (x := "place") (by kernel_rfl)) (tail_plget (fun _ _ => rfl))) sim_pdset) rfl rfl rfl)))) sim_nil (fun _ => rfl))
  (sim_one (sim_Return (sim_Name (x := "parents") (by kernel_rfl))))))
theorem S_law_parents {ad : Ad} (F : FactsL TS ad) (hh : A.handled = none) : SimF prog w TS (n + 1) A (.ref ad.lparents) (P_law_parents ad) := by
  obtain ⟨o, fd, H, hb⟩ := F.fn_law_parents
  exact sim_def H hh (bind_plain hb) (names_okP (by kernel_rfl)) (fun A' L q cd hh' => Q_law_parents F hh')
def B_law_read (ad : Ad) : PTx LF :=
  (pseq
  (pbind (pbind (pbind (pbind (pbind (pget "parents") fun a => pbind (pret []) fun as => pret (a :: as)) (P_T ad)) fun a => pbind (pbind pdict0 fun a => pbind (pbind pdict0 fun a => pbind (pbind (pret (.int 0)) fun a => pbind (pret []) fun as => pret (a :: as)) fun as => pret (a :: as)) fun as => pret (a :: as)) fun as => pret (a :: as)) ptuple) fun v => pbind ((ptupT [(pset "sorter"), (pset "ranks"), (pset "seen"), (pset "turn")]) v) fun _ => pret .next)
  (pseq
  (pbind (pbind (pget "sorter") fun a9 => pbind (pisinst ad.CT "prepare" a9) fun _ => pbind (pret []) fun as => P_prepare ad (a9 :: as)) fun _ => pret .next)
  (pseq
  (pwhile (pbind (pbind (pget "sorter") fun a9 => pbind (pisinst ad.CT "is_active" a9) fun _ => pbind (pret []) fun as => P_is_active ad (a9 :: as)) ptruth) (pseq
  (pbind (pbind (pget "sorter") fun a9 => pbind (pisinst ad.CT "get_ready" a9) fun _ => pbind (pret []) fun as => P_get_ready ad (a9 :: as)) fun v => pbind (pset "group" v) fun _ => pret .next)
  (pseq
  (pfor (pbind (pget "group") ptitems) (pset "name") (pseq
  (pbind (pget "turn") fun v => pbind ((fun v => pbind (pget "ranks") fun a => pbind (pget "name") fun b => pdset a b v) v) fun _ => pret .next)
  (pbind (pbind (pbind (pbind (pbind (pbind (pbind (pbind (pget "name") fun a => pbind (pret []) fun as => pret (a :: as)) plist) fun a => pbind (pret []) fun as => pret (a :: as)) plist) fun a => pbind (pcomp (.list []) (pbind (pbind (pget "parents") fun a => pbind (pget "name") fun b => pdget a b) pitems) [".0", "other"] (pset "other") (fun D => pwhen (pret true) (pemit (pbind (pget "seen") fun a => pbind (pget "other") fun b => pdget a b) D))) fun b => pcat a b) fun a => pbind (pret []) fun as => pret (a :: as)) (P_law_joined ad)) fun v => pbind ((fun v => pbind (pget "seen") fun a => pbind (pget "name") fun b => pdset a b v) v) fun _ => pret .next)) (pret .next))
  (pseq
  (pbind (pbind (pget "sorter") fun a9 => pbind (pisinst ad.CT "done" a9) fun _ => pbind (pget "group") fun v => pbind (pstar v) fun as => P_done ad (a9 :: as)) fun _ => pret .next)
  (pbind (pget "turn") fun a => pbind (pret (.int 1)) fun b => pbind (padd a b) fun v => pbind (pset "turn" v) fun _ => pret .next)))) (pret .next))
  (pbind (pbind (pbind (pget "ranks") fun a => pbind (pbind (pget "seen") fun a => pbind (pret []) fun as => pret (a :: as)) fun as => pret (a :: as)) ptuple) fun v => pret (.ret v)))))
abbrev P_law_read (ad : Ad) : List LV → PTx LV := pdef (bndP ["parents"]) (B_law_read ad)
theorem Q_law_read {ad : Ad} (F : FactsL TS ad) (hh : A.handled = none) {L f : Addr} {q : Str} {cd : Value} : Sim prog w TS (n + 6) A (fenv (fnScope (fnAt PySem.Challenge.pw_nq0219_02 18)) L q f cd) (execs (fnBody (fnAt PySem.Challenge.pw_nq0219_02 18)) (fenv (fnScope (fnAt PySem.Challenge.pw_nq0219_02 18)) L q f cd)) FlRel (B_law_read ad) :=
  (sim_cons
  (sim_Assign (sim_Tuple (sim_arg (sim_CallF F.gl_CT F.kp_CT (by kernel_rfl) (by kernel_rfl) rfl rfl (sim_arg (sim_Name (x := "parents") (by kernel_rfl)) sim_arg_nil rfl) (up_T F hh)) (sim_arg sim_Dict0 (sim_arg sim_Dict0 (sim_arg sim_int sim_arg_nil rfl) rfl) rfl) rfl)) (sim_tTuple hh (.cons (sim_tName (x := "sorter") (.inl (by kernel_rfl))) (.cons (sim_tName (x := "ranks") (.inl (by kernel_rfl))) (.cons (sim_tName (x := "seen") (storeC (by kernel_rfl) ⟨_, rfl, by repeat (first | exact Nat.lt_succ_self _ | apply Nat.lt_succ_of_lt)⟩)) (.cons (sim_tName (x := "turn") (.inl (by kernel_rfl))) .nil))))) rfl rfl rfl)
  (sim_cons
  (sim_Expr (sim_CallMeth (F.pgT _) F.m_prepare.f F.m_prepare.n F.m_prepare.k rfl rfl rfl (sim_Name (x := "sorter") (by kernel_rfl)) sim_arg_nil (S_prepare F hh)) rfl rfl)
  (sim_cons
  (sim_While rfl (sim_test_val (sim_CallMeth (F.pgT _) F.m_is_active.f F.m_is_active.n F.m_is_active.k rfl rfl rfl (sim_Name (x := "sorter") (by kernel_rfl)) sim_arg_nil (S_is_active F hh)) sim_truth rfl) (sim_cons
  (sim_Assign_Name (x := "group") (.inl (by kernel_rfl)) (sim_CallMeth (F.pgT _) F.m_get_ready.f F.m_get_ready.n F.m_get_ready.k rfl rfl rfl (sim_Name (x := "sorter") (by kernel_rfl)) sim_arg_nil (S_get_ready F hh)) (by kernel_rfl))
  (sim_cons
  (sim_For rfl (it_tuple hh (sim_Name (x := "group") (by kernel_rfl))) (sim_tName (x := "name") (.inl (by kernel_rfl))) (sim_cons
  (sim_Assign (sim_Name (x := "turn") (by kernel_rfl)) (sim_tSub (sim_Name (x := "ranks") (by kernel_rfl)) (sim_Name (x := "name") (by kernel_rfl)) sim_pdset) rfl rfl rfl)
  (sim_one (sim_Assign (sim_CallF F.gl_law_joined F.kp_law_joined (by kernel_rfl) (by kernel_rfl) rfl rfl (sim_arg (sim_BinOp (sim_List (sim_arg (sim_List (sim_arg (sim_Name (x := "name") (by kernel_rfl)) sim_arg_nil rfl)) sim_arg_nil rfl)) (sim_ListComp (by kernel_rfl) (fun _ => rfl) (it_list hh (sim_Subscript (sim_Name (x := "parents") (by kernel_rfl)) (sim_Name (x := "name") (by kernel_rfl)) (tail_pdget (fun _ _ => rfl)))) ⟨fun C1 => (sim_tName (x := "other") (.inl (by kernel_rfl))), fun C1 => sim_tests_nil, fun C1 => (sim_Subscript (sim_Name (x := "seen") (by kernel_rfl)) (sim_Name (x := "other") (by kernel_rfl)) (tail_pdget (fun _ _ => rfl)))⟩) sim_cat) sim_arg_nil rfl) (S_law_joined F hh)) (sim_tSub (sim_Name (x := "seen") (by kernel_rfl)) (sim_Name (x := "name") (by kernel_rfl)) sim_pdset) rfl rfl rfl))) sim_nil (fun _ => rfl))
  (sim_cons
  (sim_Expr (sim_CallMethL (F.pgT _) F.hdT F.m_done.f F.m_done.g F.m_done.t F.m_done.y F.m_done.i (by decide +kernel) rfl rfl rfl (sim_Name (x := "sorter") (by kernel_rfl)) (sim_Name (x := "group") (by kernel_rfl)) (S_done F hh)) rfl rfl)
  (sim_one (sim_AugAssign_Name (x := "turn") (.inl (by kernel_rfl)) (by kernel_rfl) sim_int sim_iadd))))) sim_nil)
  (sim_one (sim_Return (sim_Tuple (sim_arg (sim_Name (x := "ranks") (by kernel_rfl)) (sim_arg (sim_Name (x := "seen") (by kernel_rfl)) sim_arg_nil rfl) rfl)))))))
theorem S_law_read {ad : Ad} (F : FactsL TS ad) (hh : A.handled = none) : SimF prog w TS (n + 7) A (.ref ad.read) (P_law_read ad) := by
  obtain ⟨o, fd, H, hb⟩ := F.fn_law_read
  exact sim_def H hh (bind_plain hb) (names_okP (by kernel_rfl)) (fun A' L q cd hh' => Q_law_read F hh')
def B_law_marked (ad : Ad) : PTx LF :=
  (pseq
  (pbind (pdisp [((pget "left"), (pret (.int 1)))]) fun v => pbind (pset "marks" v) fun _ => pret .next)
  (pseq
  (pfor (pbind (pget "rest") pitems) (pset "name") (pbind (pbind (pbind (pget "marks") fun a => pbind (pisdict a) fun _ => pbind (pbind (pget "name") fun a => pbind (pbind (pret (.int 0)) fun a => pbind (pret []) fun as => pret (a :: as)) fun as => pret (a :: as)) fun as => pdget2 a as) fun a => pbind (pret (.int 2)) fun b => por a b) fun v => pbind ((fun v => pbind (pget "marks") fun a => pbind (pget "name") fun b => pdset a b v) v) fun _ => pret .next) (pret .next))
  (pseq
  (pbind (pcomp (.list []) (pbind (pget "marks") pkeys) [".0", "name"] (pset "name") (fun D => pwhen (pret true) (pemit (pbind (pbind (pbind (pbind (pget "ranks") fun a => pbind (pget "name") fun b => pdget a b) pneg) fun a => pbind (pbind (pget "name") fun a => pbind (pret []) fun as => pret (a :: as)) fun as => pret (a :: as)) ptuple) D))) fun v => pbind (pset "heap" v) fun _ => pret .next)
  (pseq
  (pbind (pbind (pbind (pget "heap") fun a => pbind (pret []) fun as => pret (a :: as)) (P_heapify ad)) fun _ => pret .next)
  (pseq
  (pbind (pdisp [((pret (.int 1)), (pbind (pret []) plist)), ((pret (.int 2)), (pbind (pret []) plist)), ((pret (.int 3)), (pbind (pret []) plist))]) fun v => pbind (pset "told" v) fun _ => pret .next)
  (pseq
  (pwhile (pbind (pcomp (.list []) (pbind (pget "heap") pitems) [".0", "rank", "name"] (ptupT [(pset "rank"), (pset "name")]) (fun D => pwhen (pbind (pbind (pget "marks") fun a => pbind (pget "name") fun b => pdget a b) fun a => pbind (pret (.int 7)) fun b => pne a b) (pemit (pget "name") D))) fun a => pbind (pbind (pret []) plist) fun b => pnot pleq0 a b) (pseq
  (pbind (pbind (pbind (pbind (pget "heap") fun a => pbind (pret []) fun as => pret (a :: as)) (P_heappop ad)) fun a => pbind (pret (.int 1)) fun b => ptget a b) fun v => pbind (pset "name" v) fun _ => pret .next)
  (pseq
  (pbind (pbind (pget "marks") fun a => pbind (pget "name") fun b => pdget a b) fun v => pbind (pset "mark" v) fun _ => pret .next)
  (pseq
  (pif (pbind (pget "mark") fun a => pbind (pret (.int 7)) fun b => pne a b) (pbind (pbind (pbind (pget "told") fun a => pbind (pget "mark") fun b => pdget a b) fun a => pbind (pislist a) fun _ => pbind (pbind (pget "name") fun a => pbind (pret []) fun as => pret (a :: as)) fun as => plappend a as) fun _ => pret .next) (pret .next))
  (pfor (pbind (pbind (pget "parents") fun a => pbind (pget "name") fun b => pdget a b) pitems) (pset "other") (pseq
  (pif (pbind (pget "other") fun a => pbind (pget "marks") fun b => pdnotin a b) (pbind (pbind (pbind (pget "heap") fun a => pbind (pbind (pbind (pbind (pbind (pbind (pget "ranks") fun a => pbind (pget "other") fun b => pdget a b) pneg) fun a => pbind (pbind (pget "other") fun a => pbind (pret []) fun as => pret (a :: as)) fun as => pret (a :: as)) ptuple) fun a => pbind (pret []) fun as => pret (a :: as)) fun as => pret (a :: as)) (P_heappush ad)) fun _ => pret .next) (pret .next))
  (pbind (pbind (pbind (pget "marks") fun a => pbind (pisdict a) fun _ => pbind (pbind (pget "other") fun a => pbind (pbind (pret (.int 0)) fun a => pbind (pret []) fun as => pret (a :: as)) fun as => pret (a :: as)) fun as => pdget2 a as) fun a => pbind (pbind (pbind (pget "mark") fun a => pbind (pret (.int 3)) fun b => peq a b) fun z => fun Q E σ => if z = true then (pret (.int 7)) Q E σ else (pget "mark") Q E σ) fun b => por a b) fun v => pbind ((fun v => pbind (pget "marks") fun a => pbind (pget "other") fun b => pdset a b v) v) fun _ => pret .next)) (pret .next))))) (pret .next))
  (pbind (pcomp (.list []) (pbind (pbind (pbind (pret (.int 1)) fun a => pbind (pbind (pret (.int 2)) fun a => pbind (pbind (pret (.int 3)) fun a => pbind (pret []) fun as => pret (a :: as)) fun as => pret (a :: as)) fun as => pret (a :: as)) ptuple) ptitems) [".0", "mark"] (pset "mark") (fun D => pwhen (pret true) (pemit (pbind (pbind (pbind (pget "told") fun a => pbind (pget "mark") fun b => pdget a b) fun a => pbind (pret []) fun as => pret (a :: as)) psorted) D))) fun v => pret (.ret v))))))))
abbrev P_law_marked (ad : Ad) : List LV → PTx LV := pdef (bndP ["parents", "ranks", "left", "rest"]) (B_law_marked ad)
theorem Q_law_marked {ad : Ad} (F : FactsL TS ad) (hh : A.handled = none) {L f : Addr} {q : Str} {cd : Value} : Sim prog w TS (n + 3) A (fenv (fnScope (fnAt PySem.Challenge.pw_nq0219_02 19)) L q f cd) (execs (fnBody (fnAt PySem.Challenge.pw_nq0219_02 19)) (fenv (fnScope (fnAt PySem.Challenge.pw_nq0219_02 19)) L q f cd)) FlRel (B_law_marked ad) :=
  (sim_cons
  (sim_Assign_Name (x := "marks") (storeC (by kernel_rfl) ⟨_, rfl, by repeat (first | exact Nat.lt_succ_self _ | apply Nat.lt_succ_of_lt)⟩) (sim_DictD (.cons (sim_Name (x := "left") (by kernel_rfl)) sim_int .nil) rfl rfl (fun h => (nomatch h)) (by decide)) (by kernel_rfl))
  (sim_cons
  (sim_For rfl (it_list hh (sim_Name (x := "rest") (by kernel_rfl))) (sim_tName (x := "name") (.inl (by kernel_rfl))) (sim_one (sim_Assign (sim_BinOp (sim_CallM PySem.F.plainAttrs_dict PySem.F.slot_dict_get PySem.F.type_dict_get rfl rfl rfl rfl (sim_Name (x := "marks") (by kernel_rfl)) isOf_dict (sim_arg (sim_Name (x := "name") (by kernel_rfl)) (sim_arg sim_int sim_arg_nil rfl) rfl) sim_get2) sim_int sim_or) (sim_tSub (sim_Name (x := "marks") (by kernel_rfl)) (sim_Name (x := "name") (by kernel_rfl)) sim_pdset) rfl rfl rfl)) sim_nil (fun _ => rfl))
  (sim_cons
  (sim_Assign_LComp (y := "heap") (.inl (by kernel_rfl)) (by kernel_rfl) (by kernel_rfl) (fun _ => rfl) (it_keys hh (sim_Name (x := "marks") (by kernel_rfl))) ⟨fun C1 => (sim_tName (x := "name") (.inl (by kernel_rfl))), fun C1 => sim_tests_nil, fun C1 => (sim_Tuple (sim_arg (sim_UnaryOp (sim_Subscript (sim_Name (x := "ranks") (by kernel_rfl)) (sim_Name (x := "name") (by kernel_rfl)) (tail_pdget (fun _ _ => rfl))) sim_neg) (sim_arg (sim_Name (x := "name") (by kernel_rfl)) sim_arg_nil rfl) rfl))⟩)
  (sim_cons
  (sim_Expr (sim_CallF F.gl_heapify F.kp_heapify (by kernel_rfl) (by kernel_rfl) rfl rfl (sim_arg (sim_Name (x := "heap") (by kernel_rfl)) sim_arg_nil rfl) (S_heapify F hh)) rfl rfl)
  (by
  refine sim_cons ?_ ?_
  · refine sim_Assign_Name (x := "told") ?_ ?_ ?_
    · exact (storeC (by kernel_rfl) ⟨_, rfl, by repeat (first | exact Nat.lt_succ_self _ | apply Nat.lt_succ_of_lt)⟩)
    · refine sim_DictD ?_ ?_ ?_ ?_ ?_
      · exact (.cons sim_int (sim_List sim_arg_nil) (.cons sim_int (sim_List sim_arg_nil) (.cons sim_int (sim_List sim_arg_nil) .nil)))
      · rfl
      · rfl
      · exact fun h => nomatch h
      · decide
    · kernel_rfl
  · exact (sim_cons
  (sim_While rfl (sim_test_Compare (sim_ListComp (by kernel_rfl) (fun _ => rfl) (it_list hh (sim_Name (x := "heap") (by kernel_rfl))) ⟨fun C2 => (sim_tTuple hh (.cons (sim_tName (x := "rank") (.inl (by kernel_rfl))) (.cons (sim_tName (x := "name") (.inl (by kernel_rfl))) .nil))), fun C2 => (sim_tests_one (sim_test_Compare (sim_Subscript (sim_Name (x := "marks") (by kernel_rfl)) (sim_Name (x := "name") (by kernel_rfl)) (tail_pdget (fun _ _ => rfl))) sim_int sim_ne rfl)), fun C2 => (sim_Name (x := "name") (by kernel_rfl))⟩) (sim_List sim_arg_nil) sim_plne0 rfl) (sim_cons
  (sim_Assign_Name (x := "name") (.inl (by kernel_rfl)) (sim_Subscript (sim_CallF F.gl_heappop F.kp_heappop (by kernel_rfl) (by kernel_rfl) rfl rfl (sim_arg (sim_Name (x := "heap") (by kernel_rfl)) sim_arg_nil rfl) (S_heappop F hh)) sim_int (tail_ptget (fun _ _ => rfl))) (by kernel_rfl))
  (sim_cons
  (sim_Assign_Name (x := "mark") (.inl (by kernel_rfl)) (sim_Subscript (sim_Name (x := "marks") (by kernel_rfl)) (sim_Name (x := "name") (by kernel_rfl)) (tail_pdget (fun _ _ => rfl))) (by kernel_rfl))
  (sim_cons
  (sim_If (sim_test_Compare (sim_Name (x := "mark") (by kernel_rfl)) sim_int sim_ne rfl) (sim_one (sim_Expr (sim_CallM PySem.F.plainAttrs_list PySem.F.slot_list_append PySem.F.type_list_append rfl rfl rfl rfl (sim_Subscript (sim_Name (x := "told") (by kernel_rfl)) (sim_Name (x := "mark") (by kernel_rfl)) (tail_pdget (fun _ _ => rfl))) isOf_list (sim_arg (sim_Name (x := "name") (by kernel_rfl)) sim_arg_nil rfl) sim_append) rfl rfl)) sim_nil)
  (sim_one (sim_For rfl (it_list hh (sim_Subscript (sim_Name (x := "parents") (by kernel_rfl)) (sim_Name (x := "name") (by kernel_rfl)) (tail_pdget (fun _ _ => rfl)))) (sim_tName (x := "other") (.inl (by kernel_rfl))) (sim_cons
  (sim_If (sim_test_Compare (sim_Name (x := "other") (by kernel_rfl)) (sim_Name (x := "marks") (by kernel_rfl)) sim_pdnotin rfl) (sim_one (sim_Expr (sim_CallF F.gl_heappush F.kp_heappush (by kernel_rfl) (by kernel_rfl) rfl rfl (sim_arg (sim_Name (x := "heap") (by kernel_rfl)) (sim_arg (sim_Tuple (sim_arg (sim_UnaryOp (sim_Subscript (sim_Name (x := "ranks") (by kernel_rfl)) (sim_Name (x := "other") (by kernel_rfl)) (tail_pdget (fun _ _ => rfl))) sim_neg) (sim_arg (sim_Name (x := "other") (by kernel_rfl)) sim_arg_nil rfl) rfl)) sim_arg_nil rfl) rfl) (S_heappush F hh)) rfl rfl)) sim_nil)
  (sim_one (sim_Assign (sim_BinOp (sim_CallM PySem.F.plainAttrs_dict PySem.F.slot_dict_get PySem.F.type_dict_get rfl rfl rfl rfl (sim_Name (x := "marks") (by kernel_rfl)) isOf_dict (sim_arg (sim_Name (x := "other") (by kernel_rfl)) (sim_arg sim_int sim_arg_nil rfl) rfl) sim_get2) (sim_IfExp (sim_test_Compare (sim_Name (x := "mark") (by kernel_rfl)) sim_int sim_eq rfl) sim_int (sim_Name (x := "mark") (by kernel_rfl))) sim_or) (sim_tSub (sim_Name (x := "marks") (by kernel_rfl)) (sim_Name (x := "other") (by kernel_rfl)) sim_pdset) rfl rfl rfl))) sim_nil (fun _ => rfl)))))) sim_nil)
  (sim_one (sim_Return (sim_ListComp (by kernel_rfl) (fun _ => rfl) (it_tuple hh (sim_Tuple (sim_arg sim_int (sim_arg sim_int (sim_arg sim_int sim_arg_nil rfl) rfl) rfl))) ⟨fun C3 => (sim_tName (x := "mark") (.inl (by kernel_rfl))), fun C3 => sim_tests_nil, fun C3 => (sim_CallB F.gl_sorted rfl (by kernel_rfl) (by kernel_rfl) rfl (sim_arg (sim_Subscript (sim_Name (x := "told") (by kernel_rfl)) (sim_Name (x := "mark") (by kernel_rfl)) (tail_pdget (fun _ _ => rfl))) sim_arg_nil rfl) sim_sorted)⟩)))))))))
theorem S_law_marked {ad : Ad} (F : FactsL TS ad) (hh : A.handled = none) : SimF prog w TS (n + 4) A (.ref ad.marked) (P_law_marked ad) := by
  obtain ⟨o, fd, H, hb⟩ := F.fn_law_marked
  exact sim_def H hh (bind_plain hb) (names_okP (by kernel_rfl)) (fun A' L q cd hh' => Q_law_marked F hh')
def B_law_listed (ad : Ad) : PTx LF :=
  (pseq
  (pbind (pbind (pbind (pcomp (.list []) (pbind (pget "rest") pitems) [".0", "name"] (pset "name") (fun D => pwhen (pret true) (pemit (pbind (pget "seen") fun a => pbind (pget "name") fun b => pdget a b) D))) fun a => pbind (pret []) fun as => pret (a :: as)) (P_law_joined ad)) fun v => pbind (pset "whole" v) fun _ => pret .next)
  (pseq
  (pbind (pbind (pbind (pbind (pget "seen") fun a => pbind (pget "left") fun b => pdget a b) fun a => pbind (pbind (pget "whole") fun a => pbind (pret []) fun as => pret (a :: as)) fun as => pret (a :: as)) (P_sorted_list_difference ad)) fun v => pbind ((ptupT [(pset "mine"), (pset "others")]) v) fun _ => pret .next)
  (pseq
  (pbind (pbind (pbind (pbind (pbind (pget "seen") fun a => pbind (pget "left") fun b => pdget a b) fun a => pbind (pbind (pget "mine") fun a => pbind (pret []) fun as => pret (a :: as)) fun as => pret (a :: as)) (P_sorted_list_difference ad)) fun a => pbind (pret (.int 0)) fun b => ptget a b) fun v => pbind (pset "shared" v) fun _ => pret .next)
  (pseq
  (pbind (pbind (pbind (pcomp (.list []) (pbind (pget "shared") pitems) [".0", "name"] (pset "name") (fun D => pwhen (pret true) (pemit (pcomp (.list []) (pbind (pbind (pget "seen") fun a => pbind (pget "name") fun b => pdget a b) pitems) [".0", "other"] (pset "other") (fun D => pwhen (pbind (pget "other") fun a => pbind (pget "name") fun b => pne a b) (pemit (pget "other") D))) D))) fun a => pbind (pret []) fun as => pret (a :: as)) (P_law_joined ad)) fun v => pbind (pset "older" v) fun _ => pret .next)
  (pbind (pbind (pbind (pget "mine") fun a => pbind (pbind (pget "others") fun a => pbind (pbind (pbind (pbind (pbind (pget "shared") fun a => pbind (pbind (pget "older") fun a => pbind (pret []) fun as => pret (a :: as)) fun as => pret (a :: as)) (P_sorted_list_difference ad)) fun a => pbind (pret (.int 0)) fun b => ptget a b) fun a => pbind (pret []) fun as => pret (a :: as)) fun as => pret (a :: as)) fun as => pret (a :: as)) plist) fun v => pret (.ret v))))))
abbrev P_law_listed (ad : Ad) : List LV → PTx LV := pdef (bndP ["seen", "left", "rest"]) (B_law_listed ad)
theorem Q_law_listed {ad : Ad} (F : FactsL TS ad) (hh : A.handled = none) {L f : Addr} {q : Str} {cd : Value} : Sim prog w TS (n + 2) A (fenv (fnScope (fnAt PySem.Challenge.pw_nq0219_02 20)) L q f cd) (execs (fnBody (fnAt PySem.Challenge.pw_nq0219_02 20)) (fenv (fnScope (fnAt PySem.Challenge.pw_nq0219_02 20)) L q f cd)) FlRel (B_law_listed ad) :=
  (sim_cons
  (sim_Assign_Name (x := "whole") (.inl (by kernel_rfl)) (sim_CallF F.gl_law_joined F.kp_law_joined (by kernel_rfl) (by kernel_rfl) rfl rfl (sim_arg (sim_ListComp (by kernel_rfl) (fun _ => rfl) (it_list hh (sim_Name (x := "rest") (by kernel_rfl))) ⟨fun C1 => (sim_tName (x := "name") (.inl (by kernel_rfl))), fun C1 => sim_tests_nil, fun C1 => (sim_Subscript (sim_Name (x := "seen") (by kernel_rfl)) (sim_Name (x := "name") (by kernel_rfl)) (tail_pdget (fun _ _ => rfl)))⟩) sim_arg_nil rfl) (S_law_joined F hh)) (by kernel_rfl))
  (sim_cons
  (sim_Assign (sim_CallF F.gl_sorted_list_difference F.kp_sorted_list_difference (by kernel_rfl) (by kernel_rfl) rfl rfl (sim_arg (sim_Subscript (sim_Name (x := "seen") (by kernel_rfl)) (sim_Name (x := "left") (by kernel_rfl)) (tail_pdget (fun _ _ => rfl))) (sim_arg (sim_Name (x := "whole") (by kernel_rfl)) sim_arg_nil rfl) rfl) (S_sorted_list_difference F hh)) (sim_tTuple hh (.cons (sim_tName (x := "mine") (.inl (by kernel_rfl))) (.cons (sim_tName (x := "others") (.inl (by kernel_rfl))) .nil))) rfl rfl rfl)
  (sim_cons
  (sim_Assign_Name (x := "shared") (.inl (by kernel_rfl)) (sim_Subscript (sim_CallF F.gl_sorted_list_difference F.kp_sorted_list_difference (by kernel_rfl) (by kernel_rfl) rfl rfl (sim_arg (sim_Subscript (sim_Name (x := "seen") (by kernel_rfl)) (sim_Name (x := "left") (by kernel_rfl)) (tail_pdget (fun _ _ => rfl))) (sim_arg (sim_Name (x := "mine") (by kernel_rfl)) sim_arg_nil rfl) rfl) (S_sorted_list_difference F hh)) sim_int (tail_ptget (fun _ _ => rfl))) (by kernel_rfl))
  (sim_cons
  (sim_Assign_Name (x := "older") (.inl (by kernel_rfl)) (sim_CallF F.gl_law_joined F.kp_law_joined (by kernel_rfl) (by kernel_rfl) rfl rfl (sim_arg (sim_ListComp (by kernel_rfl) (fun _ => rfl) (it_list hh (sim_Name (x := "shared") (by kernel_rfl))) ⟨fun C2 => (sim_tName (x := "name") (storeC (by kernel_rfl) ⟨_, rfl, by repeat (first | exact Nat.lt_succ_self _ | apply Nat.lt_succ_of_lt)⟩)), fun C2 => sim_tests_nil, fun C2 => (sim_ListComp (by kernel_rfl) (fun _ => rfl) (it_list hh (sim_Subscript (sim_Name (x := "seen") (by kernel_rfl)) (sim_Name (x := "name") (by kernel_rfl)) (tail_pdget (fun _ _ => rfl)))) ⟨fun C3 => (sim_tName (x := "other") (.inl (by kernel_rfl))), fun C3 => (sim_tests_one (sim_test_Compare (sim_Name (x := "other") (by kernel_rfl)) (sim_Name (x := "name") (by kernel_rfl)) sim_ne rfl)), fun C3 => (sim_Name (x := "other") (by kernel_rfl))⟩)⟩) sim_arg_nil rfl) (S_law_joined F hh)) (by kernel_rfl))
  (sim_one (sim_Return (sim_List (sim_arg (sim_Name (x := "mine") (by kernel_rfl)) (sim_arg (sim_Name (x := "others") (by kernel_rfl)) (sim_arg (sim_Subscript (sim_CallF F.gl_sorted_list_difference F.kp_sorted_list_difference (by kernel_rfl) (by kernel_rfl) rfl rfl (sim_arg (sim_Name (x := "shared") (by kernel_rfl)) (sim_arg (sim_Name (x := "older") (by kernel_rfl)) sim_arg_nil rfl) rfl) (S_sorted_list_difference F hh)) sim_int (tail_ptget (fun _ _ => rfl))) sim_arg_nil rfl) rfl) rfl))))))))
theorem S_law_listed {ad : Ad} (F : FactsL TS ad) (hh : A.handled = none) : SimF prog w TS (n + 3) A (.ref ad.listed) (P_law_listed ad) := by
  obtain ⟨o, fd, H, hb⟩ := F.fn_law_listed
  exact sim_def H hh (bind_plain hb) (names_okP (by kernel_rfl)) (fun A' L q cd hh' => Q_law_listed F hh')
def B_law_reached (ad : Ad) : PTx LF :=
  (pseq
  (pbind (pbind (pbind (pget "heads") fun a => pbind (pret []) fun as => pret (a :: as)) plistof) fun v => pbind (pset "reached" v) fun _ => pret .next)
  (pseq
  (pfor (pbind (pget "names") prev) (pset "name") (pif (pbind (pget "name") fun a => pbind (pget "reached") fun b => plin a b) (pbind (pbind (pget "reached") fun a => pbind (pislist a) fun _ => pbind (pbind (pbind (pget "parents") fun a => pbind (pget "name") fun b => pdget a b) fun a => pbind (pret []) fun as => pret (a :: as)) fun as => plextend a as) fun _ => pret .next) (pret .next)) (pret .next))
  (pbind (pget "reached") fun v => pret (.ret v))))
abbrev P_law_reached (ad : Ad) : List LV → PTx LV := pdef (bndP ["parents", "names", "heads"]) (B_law_reached ad)
theorem Q_law_reached {ad : Ad} (F : FactsL TS ad) (hh : A.handled = none) {L f : Addr} {q : Str} {cd : Value} : Sim prog w TS (n + 0) A (fenv (fnScope (fnAt PySem.Challenge.pw_nq0219_02 21)) L q f cd) (execs (fnBody (fnAt PySem.Challenge.pw_nq0219_02 21)) (fenv (fnScope (fnAt PySem.Challenge.pw_nq0219_02 21)) L q f cd)) FlRel (B_law_reached ad) :=
  (sim_cons
  (sim_Assign_Name (x := "reached") (.inl (by kernel_rfl)) (sim_CallB F.gl_list rfl (by kernel_rfl) (by kernel_rfl) rfl (sim_arg (sim_Name (x := "heads") (by kernel_rfl)) sim_arg_nil rfl) (sim_listof hh)) (by kernel_rfl))
  (sim_cons
  (sim_For rfl (it_rev hh F.gl_reversed (by kernel_rfl) rfl (sim_Name (x := "names") (by kernel_rfl))) (sim_tName (x := "name") (.inl (by kernel_rfl))) (sim_one (sim_If (sim_test_Compare (sim_Name (x := "name") (by kernel_rfl)) (sim_Name (x := "reached") (by kernel_rfl)) sim_plin rfl) (sim_one (sim_Expr (sim_CallM PySem.F.plainAttrs_list PySem.F.slot_list_extend PySem.F.type_list_extend rfl rfl rfl rfl (sim_Name (x := "reached") (by kernel_rfl)) isOf_list (sim_arg (sim_Subscript (sim_Name (x := "parents") (by kernel_rfl)) (sim_Name (x := "name") (by kernel_rfl)) (tail_pdget (fun _ _ => rfl))) sim_arg_nil rfl) sim_extend) rfl rfl)) sim_nil)) sim_nil (fun _ => rfl))
  (sim_one (sim_Return (sim_Name (x := "reached") (by kernel_rfl))))))
theorem S_law_reached {ad : Ad} (F : FactsL TS ad) (hh : A.handled = none) : SimF prog w TS (n + 1) A (.ref ad.reached) (P_law_reached ad) := by
  obtain ⟨o, fd, H, hb⟩ := F.fn_law_reached
  exact sim_def H hh (bind_plain hb) (names_okP (by kernel_rfl)) (fun A' L q cd hh' => Q_law_reached F hh')
def B_law_due (ad : Ad) : PTx LF :=
  (pseq
  (pbind (pbind (pbind (pget "parents") fun a => pbind (pbind (pget "names") fun a => pbind (pbind (pbind (pbind (pget "left") fun a => pbind (pret []) fun as => pret (a :: as)) plist) fun a => pbind (pret []) fun as => pret (a :: as)) fun as => pret (a :: as)) fun as => pret (a :: as)) (P_law_reached ad)) fun v => pbind (pset "mine" v) fun _ => pret .next)
  (pseq
  (pbind (pbind (pbind (pget "parents") fun a => pbind (pbind (pget "names") fun a => pbind (pbind (pget "rest") fun a => pbind (pret []) fun as => pret (a :: as)) fun as => pret (a :: as)) fun as => pret (a :: as)) (P_law_reached ad)) fun v => pbind (pset "others" v) fun _ => pret .next)
  (pseq
  (pbind (pcomp (.list []) (pbind (pbind (pbind (pret (.int 7)) fun a => pbind (pret []) fun as => pret (a :: as)) prange1) pritems) [".0", "name"] (pset "name") (fun D => pwhen (pbind (pbind (pget "name") fun a => pbind (pget "mine") fun b => plin a b) fun b => fun Q E σ => if b = true then (pbind (pget "name") fun a => pbind (pget "others") fun b => plin a b) Q E σ else Q false σ) (pemit (pget "name") D))) fun v => pbind (pset "shared" v) fun _ => pret .next)
  (pbind (pbind (pbind (pcomp (.list []) (pbind (pbind (pbind (pret (.int 7)) fun a => pbind (pret []) fun as => pret (a :: as)) prange1) pritems) [".0", "name"] (pset "name") (fun D => pwhen (pbind (pbind (pget "name") fun a => pbind (pget "mine") fun b => plin a b) fun b => fun Q E σ => if b = true then (pbind (pget "name") fun a => pbind (pget "others") fun b => plnotin a b) Q E σ else Q false σ) (pemit (pget "name") D))) fun a => pbind (pbind (pcomp (.list []) (pbind (pbind (pbind (pret (.int 7)) fun a => pbind (pret []) fun as => pret (a :: as)) prange1) pritems) [".0", "name"] (pset "name") (fun D => pwhen (pbind (pbind (pget "name") fun a => pbind (pget "others") fun b => plin a b) fun b => fun Q E σ => if b = true then (pbind (pget "name") fun a => pbind (pget "mine") fun b => plnotin a b) Q E σ else Q false σ) (pemit (pget "name") D))) fun a => pbind (pbind (pcomp (.list []) (pbind (pget "shared") pitems) [".0", "name"] (pset "name") (fun D => pwhen (pbind (pcomp (.list []) (pbind (pget "shared") pitems) [".0", "child"] (pset "child") (fun D => pwhen (pbind (pget "name") fun a => pbind (pbind (pget "parents") fun a => pbind (pget "child") fun b => pdget a b) fun b => plin a b) (pemit (pget "child") D))) fun a => pbind (pbind (pret []) plist) fun b => pleq0 a b) (pemit (pget "name") D))) fun a => pbind (pret []) fun as => pret (a :: as)) fun as => pret (a :: as)) fun as => pret (a :: as)) plist) fun v => pret (.ret v)))))
abbrev P_law_due (ad : Ad) : List LV → PTx LV := pdef (bndP ["parents", "names", "left", "rest"]) (B_law_due ad)
theorem Q_law_due {ad : Ad} (F : FactsL TS ad) (hh : A.handled = none) {L f : Addr} {q : Str} {cd : Value} : Sim prog w TS (n + 1) A (fenv (fnScope (fnAt PySem.Challenge.pw_nq0219_02 22)) L q f cd) (execs (fnBody (fnAt PySem.Challenge.pw_nq0219_02 22)) (fenv (fnScope (fnAt PySem.Challenge.pw_nq0219_02 22)) L q f cd)) FlRel (B_law_due ad) :=
  (sim_cons
  (sim_Assign_Name (x := "mine") (storeC (by kernel_rfl) ⟨_, rfl, by repeat (first | exact Nat.lt_succ_self _ | apply Nat.lt_succ_of_lt)⟩) (sim_CallF F.gl_law_reached F.kp_law_reached (by kernel_rfl) (by kernel_rfl) rfl rfl (sim_arg (sim_Name (x := "parents") (by kernel_rfl)) (sim_arg (sim_Name (x := "names") (by kernel_rfl)) (sim_arg (sim_List (sim_arg (sim_Name (x := "left") (by kernel_rfl)) sim_arg_nil rfl)) sim_arg_nil rfl) rfl) rfl) (S_law_reached F hh)) (by kernel_rfl))
  (sim_cons
  (sim_Assign_Name (x := "others") (storeC (by kernel_rfl) ⟨_, rfl, by repeat (first | exact Nat.lt_succ_self _ | apply Nat.lt_succ_of_lt)⟩) (sim_CallF F.gl_law_reached F.kp_law_reached (by kernel_rfl) (by kernel_rfl) rfl rfl (sim_arg (sim_Name (x := "parents") (by kernel_rfl)) (sim_arg (sim_Name (x := "names") (by kernel_rfl)) (sim_arg (sim_Name (x := "rest") (by kernel_rfl)) sim_arg_nil rfl) rfl) rfl) (S_law_reached F hh)) (by kernel_rfl))
  (sim_cons
  (sim_Assign_Name (x := "shared") (storeC (by kernel_rfl) ⟨_, rfl, by repeat (first | exact Nat.lt_succ_self _ | apply Nat.lt_succ_of_lt)⟩) (sim_ListComp (by kernel_rfl) (fun _ => rfl) (it_range hh (sim_CallB F.gl_range rfl (by kernel_rfl) (by kernel_rfl) rfl (sim_arg sim_int sim_arg_nil rfl) sim_range1)) ⟨fun C1 => (sim_tName (x := "name") (.inl (by kernel_rfl))), fun C1 => (sim_tests_one (sim_test_And (sim_test_Compare (sim_Name (x := "name") (by kernel_rfl)) (sim_Name (x := "mine") (by kernel_rfl)) sim_plin rfl) (sim_test_Compare (sim_Name (x := "name") (by kernel_rfl)) (sim_Name (x := "others") (by kernel_rfl)) sim_plin rfl))), fun C1 => (sim_Name (x := "name") (by kernel_rfl))⟩) (by kernel_rfl))
  (sim_one (sim_Return (sim_List (sim_arg (sim_ListComp (by kernel_rfl) (fun _ => rfl) (it_range hh (sim_CallB F.gl_range rfl (by kernel_rfl) (by kernel_rfl) rfl (sim_arg sim_int sim_arg_nil rfl) sim_range1)) ⟨fun C2 => (sim_tName (x := "name") (.inl (by kernel_rfl))), fun C2 => (sim_tests_one (sim_test_And (sim_test_Compare (sim_Name (x := "name") (by kernel_rfl)) (sim_Name (x := "mine") (by kernel_rfl)) sim_plin rfl) (sim_test_Compare (sim_Name (x := "name") (by kernel_rfl)) (sim_Name (x := "others") (by kernel_rfl)) sim_plnotin rfl))), fun C2 => (sim_Name (x := "name") (by kernel_rfl))⟩) (sim_arg (sim_ListComp (by kernel_rfl) (fun _ => rfl) (it_range hh (sim_CallB F.gl_range rfl (by kernel_rfl) (by kernel_rfl) rfl (sim_arg sim_int sim_arg_nil rfl) sim_range1)) ⟨fun C3 => (sim_tName (x := "name") (.inl (by kernel_rfl))), fun C3 => (sim_tests_one (sim_test_And (sim_test_Compare (sim_Name (x := "name") (by kernel_rfl)) (sim_Name (x := "others") (by kernel_rfl)) sim_plin rfl) (sim_test_Compare (sim_Name (x := "name") (by kernel_rfl)) (sim_Name (x := "mine") (by kernel_rfl)) sim_plnotin rfl))), fun C3 => (sim_Name (x := "name") (by kernel_rfl))⟩) (sim_arg (sim_ListComp (by kernel_rfl) (fun _ => rfl) (it_list hh (sim_Name (x := "shared") (by kernel_rfl))) ⟨fun C4 => (sim_tName (x := "name") (storeC (by kernel_rfl) ⟨_, rfl, by repeat (first | exact Nat.lt_succ_self _ | apply Nat.lt_succ_of_lt)⟩)), fun C4 => (sim_tests_one (sim_test_Compare (sim_ListComp (by kernel_rfl) (fun _ => rfl) (it_list hh (sim_Name (x := "shared") (by kernel_rfl))) ⟨fun C5 => (sim_tName (x := "child") (.inl (by kernel_rfl))), fun C5 => (sim_tests_one (sim_test_Compare (sim_Name (x := "name") (by kernel_rfl)) (sim_Subscript (sim_Name (x := "parents") (by kernel_rfl)) (sim_Name (x := "child") (by kernel_rfl)) (tail_pdget (fun _ _ => rfl))) sim_plin rfl)), fun C5 => (sim_Name (x := "child") (by kernel_rfl))⟩) (sim_List sim_arg_nil) sim_pleq0 rfl)), fun C4 => (sim_Name (x := "name") (by kernel_rfl))⟩) sim_arg_nil rfl) rfl) rfl)))))))
theorem S_law_due {ad : Ad} (F : FactsL TS ad) (hh : A.handled = none) : SimF prog w TS (n + 2) A (.ref ad.due) (P_law_due ad) := by
  obtain ⟨o, fd, H, hb⟩ := F.fn_law_due
  exact sim_def H hh (bind_plain hb) (names_okP (by kernel_rfl)) (fun A' L q cd hh' => Q_law_due F hh')
def B_law (ad : Ad) (sa : Addr) (si : List Int) : PTx LF :=
  (pseq
  (pbind (pcomp (.list []) (pbind (pscript sa si) pitems) [".0", "cell"] (pset "cell") (fun D => pwhen (pret true) (pemit (pbind (pbind (pbind (pget "cell") fun a => pbind (pret []) fun as => pret (a :: as)) pintof) fun a => pbind (pbind (pret (.int 10)) fun a => pbind (pret (.int 6)) fun b => ppow a b) fun b => pmod a b) D))) fun v => pbind (pset "cells" v) fun _ => pret .next)
  (pseq
  (pbind (pcomp (.list []) (pbind (pbind (pbind (pret (.int 64)) fun a => pbind (pbind (pret (.int 10)) fun a => pbind (pbind (pret (.int 21)) fun a => pbind (pbind (pret (.int 21)) fun a => pbind (pbind (pret (.int 12)) fun a => pbind (pbind (pret (.int 51)) fun a => pbind (pbind (pret (.int 60)) fun a => pbind (pret []) fun as => pret (a :: as)) fun as => pret (a :: as)) fun as => pret (a :: as)) fun as => pret (a :: as)) fun as => pret (a :: as)) fun as => pret (a :: as)) fun as => pret (a :: as)) plist) penum) [".0", "place", "first"] (ptupT [(pset "place"), (pset "first")]) (fun D => pwhen (pret true) (pemit (pbind (pget "first") fun a => pbind (pbind (pbind (pbind (pget "cells") fun a => pbind (pget "place") fun b => pbind (pret (.int 7)) fun c => pstep a b c) fun a => pbind (pret []) fun as => pret (a :: as)) psum) fun b => padd a b) D))) fun v => pbind (pset "wants" v) fun _ => pret .next)
  (pseq
  (pbind (pbind (pret (.int 1)) fun a => pbind (pbind (pbind (pbind (pbind (pbind (pget "cells") fun a => pbind (pret []) fun as => pret (a :: as)) psum) fun a => pbind (pret (.int 7)) fun b => pdiv a b) fun a => pbind (pret (.int 2)) fun b => padd a b) fun a => pbind (pret (.int 6)) fun b => pmod a b) fun b => padd a b) fun v => pbind (pset "factor" v) fun _ => pret .next)
  (pseq
  (pbind (pcomp (.list []) (pbind (pbind (pbind (pret (.int 7)) fun a => pbind (pret []) fun as => pret (a :: as)) prange1) pritems) [".0", "place"] (pset "place") (fun D => pwhen (pret true) (pemit (pbind (pbind (pbind (pbind (pget "cells") fun a => pbind (pret []) fun as => pret (a :: as)) psum) fun a => pbind (pbind (pget "factor") fun a => pbind (pget "place") fun b => pmul a b) fun b => padd a b) fun a => pbind (pret (.int 7)) fun b => pmod a b) D))) fun v => pbind (pset "names" v) fun _ => pret .next)
  (pseq
  (pbind (pbind (pbind (pget "wants") fun a => pbind (pbind (pget "names") fun a => pbind (pret []) fun as => pret (a :: as)) fun as => pret (a :: as)) (P_law_parents ad)) fun v => pbind (pset "parents" v) fun _ => pret .next)
  (pseq
  (pbind (pbind (pbind (pbind (pget "names") fun a => pbind (pbind (pret (.int 6)) fun a => pbind (pbind (pbind (pget "wants") fun a => pbind (pret (.int 0)) fun b => plget a b) fun a => pbind (pret (.int 4)) fun b => pmod a b) fun b => psub a b) fun b => plget a b) fun a => pbind (pbind (pbind (pget "names") fun a => pbind (pbind (pret (.int 6)) fun a => pbind (pbind (pbind (pbind (pget "wants") fun a => pbind (pret (.int 0)) fun b => plget a b) fun a => pbind (pret (.int 4)) fun b => pdiv a b) fun a => pbind (pret (.int 5)) fun b => pmod a b) fun b => psub a b) fun b => plget a b) fun a => pbind (pbind (pbind (pget "names") fun a => pbind (pbind (pret (.int 6)) fun a => pbind (pbind (pbind (pbind (pget "wants") fun a => pbind (pret (.int 0)) fun b => plget a b) fun a => pbind (pret (.int 20)) fun b => pdiv a b) fun a => pbind (pret (.int 6)) fun b => pmod a b) fun b => psub a b) fun b => plget a b) fun a => pbind (pret []) fun as => pret (a :: as)) fun as => pret (a :: as)) fun as => pret (a :: as)) plist) fun v => pbind (pset "heads" v) fun _ => pret .next)
  (pseq
  (pbind (pbind (pbind (pget "parents") fun a => pbind (pret []) fun as => pret (a :: as)) (P_law_read ad)) fun v => pbind ((ptupT [(pset "ranks"), (pset "seen")]) v) fun _ => pret .next)
  (pseq
  (pfor (pbind (pbind (pbind (pret (.int 2)) fun a => pbind (pret []) fun as => pret (a :: as)) prange1) pritems) (pset "turn") (pseq
  (pbind (pbind (pbind (pget "heads") fun a => pbind (pget "turn") fun b => pupto a b) fun a => pbind (pbind (pget "heads") fun a => pbind (pbind (pget "turn") fun a => pbind (pret (.int 1)) fun b => padd a b) fun b => pfrom a b) fun b => pcat a b) fun v => pbind (pset "rest" v) fun _ => pret .next)
  (pseq
  (pbind (pbind (pbind (pget "parents") fun a => pbind (pbind (pget "names") fun a => pbind (pbind (pbind (pget "heads") fun a => pbind (pget "turn") fun b => plget a b) fun a => pbind (pbind (pget "rest") fun a => pbind (pret []) fun as => pret (a :: as)) fun as => pret (a :: as)) fun as => pret (a :: as)) fun as => pret (a :: as)) (P_law_due ad)) fun v => pbind (pset "due" v) fun _ => pret .next)
  (pseq
  (pif (pbind (pbind (pbind (pget "parents") fun a => pbind (pbind (pget "ranks") fun a => pbind (pbind (pbind (pget "heads") fun a => pbind (pget "turn") fun b => plget a b) fun a => pbind (pbind (pget "rest") fun a => pbind (pret []) fun as => pret (a :: as)) fun as => pret (a :: as)) fun as => pret (a :: as)) fun as => pret (a :: as)) (P_law_marked ad)) fun a => pbind (pget "due") fun b => pnot pleqD a b) (pbind (pret (.bool false)) fun v => pret (.ret v)) (pret .next))
  (pif (pbind (pbind (pbind (pget "seen") fun a => pbind (pbind (pbind (pget "heads") fun a => pbind (pget "turn") fun b => plget a b) fun a => pbind (pbind (pget "rest") fun a => pbind (pret []) fun as => pret (a :: as)) fun as => pret (a :: as)) fun as => pret (a :: as)) (P_law_listed ad)) fun a => pbind (pget "due") fun b => pnot pleqD a b) (pbind (pret (.bool false)) fun v => pret (.ret v)) (pret .next))))) (pret .next))
  (pbind (pret (.bool true)) fun v => pret (.ret v))))))))))
theorem Q_law {ad : Ad} (F : FactsL TS ad) (hh : A.handled = none) {L f : Addr} {q : Str} {cd : Value} {sa : Addr} {si : List Int} (hsc : TS.scr = some (sa, si)) : Sim prog w TS (n + 7) A (fenv (fnScope (fnAt PySem.Challenge.pw_nq0219_02 23)) L q f cd) (execs (fnBody (fnAt PySem.Challenge.pw_nq0219_02 23)) (fenv (fnScope (fnAt PySem.Challenge.pw_nq0219_02 23)) L q f cd)) FlRel (B_law ad sa si) :=
  (sim_cons
  (sim_Assign_Name (x := "cells") (storeC (by kernel_rfl) ⟨_, rfl, by repeat (first | exact Nat.lt_succ_self _ | apply Nat.lt_succ_of_lt)⟩) (sim_ListComp (by kernel_rfl) (fun _ => rfl) (it_list hh (sim_script hsc (by kernel_rfl))) ⟨fun C1 => (sim_tName (x := "cell") (.inl (by kernel_rfl))), fun C1 => sim_tests_nil, fun C1 => (sim_BinOp (sim_CallB F.gl_int rfl (by kernel_rfl) (by kernel_rfl) rfl (sim_arg (sim_Name (x := "cell") (by kernel_rfl)) sim_arg_nil rfl) sim_intof) (sim_BinOp sim_int sim_int sim_pow) sim_mod)⟩) (by kernel_rfl))
  (sim_cons
  (sim_Assign_LComp (y := "wants") (.inl (by kernel_rfl)) (by kernel_rfl) (by kernel_rfl) (fun _ => rfl) (it_enum hh F.gl_enumerate (by kernel_rfl) rfl (sim_List (sim_arg sim_int (sim_arg sim_int (sim_arg sim_int (sim_arg sim_int (sim_arg sim_int (sim_arg sim_int (sim_arg sim_int sim_arg_nil rfl) rfl) rfl) rfl) rfl) rfl) rfl))) ⟨fun C2 => (sim_tTuple hh (.cons (sim_tName (x := "place") (.inl (by kernel_rfl))) (.cons (sim_tName (x := "first") (.inl (by kernel_rfl))) .nil))), fun C2 => sim_tests_nil, fun C2 => (sim_BinOp (sim_Name (x := "first") (by kernel_rfl)) (sim_CallB F.gl_sum rfl (by kernel_rfl) (by kernel_rfl) rfl (sim_arg (sim_step (sim_Name (x := "cells") (by kernel_rfl)) (sim_Name (x := "place") (by kernel_rfl)) sim_int (fun _ _ => rfl)) sim_arg_nil rfl) (sim_sum hh)) sim_add)⟩)
  (sim_cons
  (sim_Assign_Name (x := "factor") (storeC (by kernel_rfl) ⟨_, rfl, by repeat (first | exact Nat.lt_succ_self _ | apply Nat.lt_succ_of_lt)⟩) (sim_BinOp sim_int (sim_BinOp (sim_BinOp (sim_BinOp (sim_CallB F.gl_sum rfl (by kernel_rfl) (by kernel_rfl) rfl (sim_arg (sim_Name (x := "cells") (by kernel_rfl)) sim_arg_nil rfl) (sim_sum hh)) sim_int sim_div) sim_int sim_add) sim_int sim_mod) sim_add) (by kernel_rfl))
  (sim_cons
  (sim_Assign_LComp (y := "names") (.inl (by kernel_rfl)) (by kernel_rfl) (by kernel_rfl) (fun _ => rfl) (it_range hh (sim_CallB F.gl_range rfl (by kernel_rfl) (by kernel_rfl) rfl (sim_arg sim_int sim_arg_nil rfl) sim_range1)) ⟨fun C3 => (sim_tName (x := "place") (.inl (by kernel_rfl))), fun C3 => sim_tests_nil, fun C3 => (sim_BinOp (sim_BinOp (sim_CallB F.gl_sum rfl (by kernel_rfl) (by kernel_rfl) rfl (sim_arg (sim_Name (x := "cells") (by kernel_rfl)) sim_arg_nil rfl) (sim_sum hh)) (sim_BinOp (sim_Name (x := "factor") (by kernel_rfl)) (sim_Name (x := "place") (by kernel_rfl)) sim_mul) sim_add) sim_int sim_mod)⟩)
  (sim_cons
  (sim_Assign_Name (x := "parents") (.inl (by kernel_rfl)) (sim_CallF F.gl_law_parents F.kp_law_parents (by kernel_rfl) (by kernel_rfl) rfl rfl (sim_arg (sim_Name (x := "wants") (by kernel_rfl)) (sim_arg (sim_Name (x := "names") (by kernel_rfl)) sim_arg_nil rfl) rfl) (S_law_parents F hh)) (by kernel_rfl))
  (sim_cons
  (sim_Assign_Name (x := "heads") (.inl (by kernel_rfl)) (sim_List (sim_arg (sim_Subscript (sim_Name (x := "names") (by kernel_rfl)) (sim_BinOp sim_int (sim_BinOp (sim_Subscript (sim_Name (x := "wants") (by kernel_rfl)) sim_int (tail_plget (fun _ _ => rfl))) sim_int sim_mod) sim_sub) (tail_plget (fun _ _ => rfl))) (sim_arg (sim_Subscript (sim_Name (x := "names") (by kernel_rfl)) (sim_BinOp sim_int (sim_BinOp (sim_BinOp (sim_Subscript (sim_Name (x := "wants") (by kernel_rfl)) sim_int (tail_plget (fun _ _ => rfl))) sim_int sim_div) sim_int sim_mod) sim_sub) (tail_plget (fun _ _ => rfl))) (sim_arg (sim_Subscript (sim_Name (x := "names") (by kernel_rfl)) (sim_BinOp sim_int (sim_BinOp (sim_BinOp (sim_Subscript (sim_Name (x := "wants") (by kernel_rfl)) sim_int (tail_plget (fun _ _ => rfl))) sim_int sim_div) sim_int sim_mod) sim_sub) (tail_plget (fun _ _ => rfl))) sim_arg_nil rfl) rfl) rfl)) (by kernel_rfl))
  (sim_cons
  (sim_Assign (sim_CallF F.gl_law_read F.kp_law_read (by kernel_rfl) (by kernel_rfl) rfl rfl (sim_arg (sim_Name (x := "parents") (by kernel_rfl)) sim_arg_nil rfl) (S_law_read F hh)) (sim_tTuple hh (.cons (sim_tName (x := "ranks") (.inl (by kernel_rfl))) (.cons (sim_tName (x := "seen") (.inl (by kernel_rfl))) .nil))) rfl rfl rfl)
  (sim_cons
  (sim_For rfl (it_range hh (sim_CallB F.gl_range rfl (by kernel_rfl) (by kernel_rfl) rfl (sim_arg sim_int sim_arg_nil rfl) sim_range1)) (sim_tName (x := "turn") (.inl (by kernel_rfl))) (sim_cons
  (sim_Assign_Name (x := "rest") (.inl (by kernel_rfl)) (sim_BinOp (sim_upto (sim_Name (x := "heads") (by kernel_rfl)) (sim_Name (x := "turn") (by kernel_rfl)) (fun _ _ => rfl)) (sim_from (sim_Name (x := "heads") (by kernel_rfl)) (sim_BinOp (sim_Name (x := "turn") (by kernel_rfl)) sim_int sim_add) (fun _ _ => rfl)) sim_cat) (by kernel_rfl))
  (sim_cons
  (sim_Assign_Name (x := "due") (.inl (by kernel_rfl)) (sim_CallF F.gl_law_due F.kp_law_due (by kernel_rfl) (by kernel_rfl) rfl rfl (sim_arg (sim_Name (x := "parents") (by kernel_rfl)) (sim_arg (sim_Name (x := "names") (by kernel_rfl)) (sim_arg (sim_Subscript (sim_Name (x := "heads") (by kernel_rfl)) (sim_Name (x := "turn") (by kernel_rfl)) (tail_plget (fun _ _ => rfl))) (sim_arg (sim_Name (x := "rest") (by kernel_rfl)) sim_arg_nil rfl) rfl) rfl) rfl) (S_law_due F hh)) (by kernel_rfl))
  (sim_cons
  (sim_If (sim_test_Compare (sim_CallF F.gl_law_marked F.kp_law_marked (by kernel_rfl) (by kernel_rfl) rfl rfl (sim_arg (sim_Name (x := "parents") (by kernel_rfl)) (sim_arg (sim_Name (x := "ranks") (by kernel_rfl)) (sim_arg (sim_Subscript (sim_Name (x := "heads") (by kernel_rfl)) (sim_Name (x := "turn") (by kernel_rfl)) (tail_plget (fun _ _ => rfl))) (sim_arg (sim_Name (x := "rest") (by kernel_rfl)) sim_arg_nil rfl) rfl) rfl) rfl) (S_law_marked F hh)) (sim_Name (x := "due") (by kernel_rfl)) sim_plneD rfl) (sim_one (sim_Return sim_bool)) sim_nil)
  (sim_one (sim_If (sim_test_Compare (sim_CallF F.gl_law_listed F.kp_law_listed (by kernel_rfl) (by kernel_rfl) rfl rfl (sim_arg (sim_Name (x := "seen") (by kernel_rfl)) (sim_arg (sim_Subscript (sim_Name (x := "heads") (by kernel_rfl)) (sim_Name (x := "turn") (by kernel_rfl)) (tail_plget (fun _ _ => rfl))) (sim_arg (sim_Name (x := "rest") (by kernel_rfl)) sim_arg_nil rfl) rfl) rfl) (S_law_listed F hh)) (sim_Name (x := "due") (by kernel_rfl)) sim_plneD rfl) (sim_one (sim_Return sim_bool)) sim_nil))))) sim_nil (fun _ => rfl))
  (sim_one (sim_Return sim_bool))))))))))
end
end Mine
end
noncomputable section
open PySem PySem.W PyProof.Rows PySem.Calls PySem.SeqAt
set_option Elab.async false
set_option linter.unusedVariables false
set_option maxRecDepth 100000
namespace Mine
def glOf (K : Frag) (x : String) : Option Value := if x = "__name__" then none else match nsIn K mainGlobals (Str.ofString x) with
  | some (some v) => some v
  | some none => bootBuiltins (Str.ofString x)
  | none => none
abbrev topS (K : Frag) (a : Addr) (is : List Int) : TopS := ⟨glOf K, K, true, some (a, is)⟩
theorem topF_of {K : Frag} {h : Heap} {p : Program} {loose : List Str} {mean : ExcName → Option Value} {mg mb : Str → Option Value} {a : Addr} {is : List Int} {items : List Value} (X : K.In h) (T : Top p loose mean mg mb h) (hs : importsNone p = true) (hL : h.IsList a items.toArray) (hI : IntsAre items is) (hz : items.length ≤ sizeLine) : TopF (topS K a is) h := by
  refine ⟨T.nolimit, ⟨mg, mb, T.g, T.b, fun x v hv => ?_⟩, X, ?_, fun a' is' e => ?_⟩
  · change glOf K x = some v at hv
    unfold glOf at hv
    split at hv
    · cases hv
    · rename_i hn
      split at hv
      · rename_i u hu
        cases hv
        exact .inl (mg_of X T.g hu)
      · rename_i hu
        exact .inr ⟨mg_none_of X T.g hu, by rw [T.builtins _ fun e => hn (ofString_inj.mp e)]; exact hv⟩
      · cases hv
  · obtain ⟨mm, ⟨o, _, _, ho, _⟩, _⟩ := (T.seer hs).mods; exact ⟨o, ho⟩
  · cases e
    exact ⟨items.toArray, hL, by simpa using hI, by simpa using hz⟩
section
variable {prog : Program} {w : World} {TS : TopS} {s : Shared}
/-- the law's call from the module's level -/
theorem top_go {fa a : Addr} {st : Stmt} {m : PTx LF} {o : Obj} {fd : FuncData} (H : FnIs TS fa o fd (fnScope st) (fnBody st)) (hb : ∀ (s : Shared) (xs : List Value), TS.K.In s.heap → xs.length = 1 → BindsTo s fd ⟨xs, []⟩ ([Str.ofString "script"].zip xs)) (hnm : ([(Str.ofString "script")].all fun x => (fnScope st).names.lookup x == some .local || (fnScope st).names.lookup x == some .cell) = true)
    (T : TopF TS s.heap)
    (hq : ∀ A L q cd, A.handled = none → Sim prog w TS 8 A (fenv (fnScope st) L q fa cd) (execs (fnBody st) (fenv (fnScope st) L q fa cd)) FlRel m)
    (hm : m (fun f _ => f = .ret (.bool true)) noE ⟨bindLoc [("script", .raw (.ref a))] fun _ => none, fun _ => none⟩) :
    codeAny (model prog w) callerA (.call (.ref fa) ⟨[.ref a], []⟩) (fun r s' => r = .ok (.ret (.bool true)) ∧ (∀ b o, s.heap.get? b = some o → s'.heap.get? b = some o) ∧ s'.os = s.os ∧ s'.gens = s.gens) s := by
  have ho : s.heap.get? fa = some o := T.kin _ _ H.at_
  refine codeAny_call_function (by decide) ho H.data (by rw [H.scope]; exact H.co) (by rw [H.scope]; exact H.gen) H.body (codeRec_of T.kin H.code) ?_
  rw [H.scope, H.globals, H.closure, H.builtins]
  refine hb s [.ref a] T.kin rfl _ _ _ _ ?_
  refine wpAny_newFunctionEnv_cells H.kind (fun x hx => ?_) fun env' he s₂ ic => ?_
  · obtain rfl : x = (Str.ofString "script", .ref a) := by simpa using hx
    simp only [List.all_cons, List.all_nil, Bool.and_true, Bool.or_eq_true, beq_iff_eq] at hnm
    rcases hnm with z | z
    · exact .inl z
    · obtain ⟨b, hb, _⟩ := cellsFrom_own (fnScope st).names (s.heap.objs.size + 1) [] _ (mem_of_lookup z)
      exact .inr ⟨z, by rw [hb]; rfl⟩
  · have he' : env' = fenv (fnScope st) s.heap.objs.size (fd.qualname ++ ".<locals>.") fa fd.code := he
    subst he'
    clear he
    obtain ⟨h₂, tk, rfl⟩ := ic.toInCall.same
    have kk := ic.toInCall.keep
    let c : Cx := ⟨s.heap, [], s.gens, s.os, s.drawn⟩
    have rb : BRel h₂ [("script", .raw (.ref a))] [(Str.ofString "script", .ref a)] := .cons (.raw _) .nil
    have hcl : ∀ y ∈ (fenv (fnScope st) s.heap.objs.size (fd.qualname ++ ".<locals>.") fa fd.code).cells, s.heap.objs.size < y.2 ∧ ∃ v, h₂.IsCell y.2 v := fun y hy => by
      refine ⟨ic.above y.1 y.2 hy, ?_⟩
      have hl := lookup_of_mem (by rw [show (fenv (fnScope st) s.heap.objs.size (fd.qualname ++ ".<locals>.") fa fd.code).cells = cellsFrom (s.heap.objs.size + 1) (fnScope st).names [] from rfl, cellsFrom_keys]; simp only [List.map_nil, List.append_nil]; exact List.pairwise_reverse.mpr (List.Pairwise.imp (fun h => Ne.symm h) ((List.filter_sublist.map _).nodup H.nodup))) hy
      exact ⟨_, ic.cell _ _ hl⟩
    have hbn : ∀ b, s.heap.objs.size ≤ b → s.heap.get? b = none := fun b hb => by
      cases z : s.heap.get? b with
      | none => rfl
      | some _ => exact absurd (Heap.lt_size z) (Nat.not_lt.mpr hb)
    have r : Rel prog w c (fenv (fnScope st) s.heap.objs.size (fd.qualname ++ ".<locals>.") fa fd.code) ⟨bindLoc [("script", .raw (.ref a))] fun _ => none, fun _ => none⟩ { s with heap := h₂, toks := tk } := by
      refine ⟨kk, fun _ hp => (nomatch hp), ⟨_, ic.toInCall.ns, fun x hx => bind_local rb (l := fun _ => none) (m := fun _ => none) (fun _ _ => trivial) x hx⟩, fun x hx => ?_, fun y hy => (hcl y hy).2, fun _ _ e => (nomatch e), fun _ _ e => (nomatch e), rfl, rfl, rfl⟩
      rcases hx with hx | hx
      · obtain ⟨b, hb, _⟩ := cellsFrom_own (fnScope st).names (s.heap.objs.size + 1) [] _ (mem_of_lookup hx)
        exact ⟨b, _, hb, ic.cell _ b hb, bind_cell rb (l := fun _ => none) (m := fun _ => none) (fun _ _ => trivial) x hx⟩
      · exact absurd rfl (H.free _ (mem_of_lookup hx))
    have W : WF TS 8 c (callerA.deeper (fenv (fnScope st) s.heap.objs.size (fd.qualname ++ ".<locals>.") fa fd.code)) (fenv (fnScope st) s.heap.objs.size (fd.qualname ++ ".<locals>.") fa fd.code) := by
      refine ⟨⟨Nat.le_refl _, fun _ hp => (nomatch hp), fun y hy => Nat.ne_of_gt (hcl y hy).1, fun y hy => hbn _ (Nat.le_of_lt (hcl y hy).1), fun y hy y' hy' e => name_of_addr ic.apart (c := y.2) hy (e ▸ hy'), fun _ hp => (nomatch hp), H.kind, rfl, rfl⟩, (by decide : callerA.depth + 1 + 8 < recursionLimit), (by decide : callerA.units + 3 + 64 * 8 < cLine), T, fun L hL => by cases hL; exact Nat.le_refl _, fun _ e0 h0 => (nomatch h0), fun _ => ⟨[], rfl, fun _ he => (nomatch he)⟩⟩
    refine ⟨T.nolimit.keeps kk, codeAny_func ?_⟩
    refine wpAny_mono ((hq _ _ _ _ rfl _ _ _ W r).go (Imm.refl _) hm (P := fun fl s' => (Except.ok (Flow.ret (match fl with | .ret v => v | _ => .none)) : Result) = .ok (.ret (.bool true)) ∧ (∀ b o, s.heap.get? b = some o → s'.heap.get? b = some o) ∧ s'.os = s.os ∧ s'.gens = s.gens) fun fl v σ₄ s₄ rf h₄ i₄ j₄ q₄ => ?_) (fun _ _ x => x) fun _ _ x => x.no.elim
    subst q₄
    cases rf with
    | ret rv => cases rv; exact ⟨rfl, h₄.keep, h₄.os, h₄.gens⟩
end
end Mine
end
noncomputable section
open PySem PySem.W PyProof.Rows PySem.Calls PySem.SeqAt
set_option Elab.async false
set_option linter.unusedVariables false
set_option maxRecDepth 100000
set_option maxHeartbeats 8000000
namespace Mine
noncomputable def K2 : Params → Frag := fun P => [
  (2, { cls := Value.none, data := Data.dict #[] }),
  (3, { cls := Value.type "dict", data := Data.dict #[{ hash := PyData.keyHash P (Str.ofString "__name__"), key := Value.str (Str.ofString "__name__") 165, val := Value.str (Str.ofString "law_nq0219_02") 445 }, { hash := PyData.keyHash P (Str.ofString "__doc__"), key := Value.str (Str.ofString "__doc__") 166, val := Value.none }, { hash := PyData.keyHash P (Str.ofString "__package__"), key := Value.str (Str.ofString "__package__") 167, val := Value.none }, { hash := PyData.keyHash P (Str.ofString "__loader__"), key := Value.str (Str.ofString "__loader__") 168, val := Value.builtin "__main__.__loader__#opaque" }, { hash := PyData.keyHash P (Str.ofString "__spec__"), key := Value.str (Str.ofString "__spec__") 169, val := Value.none }, { hash := PyData.keyHash P (Str.ofString "__annotations__"), key := Value.str (Str.ofString "__annotations__") 170, val := Value.ref 6 }, { hash := PyData.keyHash P (Str.ofString "__builtins__"), key := Value.str (Str.ofString "__builtins__") 171, val := Value.ref 4 }, { hash := PyData.keyHash P (Str.ofString "__file__"), key := Value.str (Str.ofString "__file__") 173, val := Value.str (Str.ofString "/claim/cut.py") 172 }, { hash := PyData.keyHash P (Str.ofString "__cached__"), key := Value.str (Str.ofString "__cached__") 174, val := Value.none }, { hash := PyData.keyHash P (Str.ofString "_wall"), key := Value.str (Str.ofString "_wall") 193, val := Value.ref 21 }, { hash := PyData.keyHash P (Str.ofString "sorted_list_difference"), key := Value.str (Str.ofString "sorted_list_difference") 209, val := Value.ref 28 }, { hash := PyData.keyHash P (Str.ofString "_NODE_OUT"), key := Value.str (Str.ofString "_NODE_OUT") 214, val := Value.int (-1) 213 }, { hash := PyData.keyHash P (Str.ofString "_NODE_DONE"), key := Value.str (Str.ofString "_NODE_DONE") 217, val := Value.int (-2) 216 }, { hash := PyData.keyHash P (Str.ofString "_NodeInfo"), key := Value.str (Str.ofString "_NodeInfo") 254, val := Value.ref 47 }, { hash := PyData.keyHash P (Str.ofString "CycleError"), key := Value.str (Str.ofString "CycleError") 272, val := Value.ref 62 }, { hash := PyData.keyHash P (Str.ofString "TopologicalSorter"), key := Value.str (Str.ofString "TopologicalSorter") 391, val := Value.ref 144 }, { hash := PyData.keyHash P (Str.ofString "heappush"), key := Value.str (Str.ofString "heappush") 401, val := Value.ref 155 }, { hash := PyData.keyHash P (Str.ofString "heappop"), key := Value.str (Str.ofString "heappop") 410, val := Value.ref 162 }, { hash := PyData.keyHash P (Str.ofString "heapify"), key := Value.str (Str.ofString "heapify") 419, val := Value.ref 169 }, { hash := PyData.keyHash P (Str.ofString "_siftdown"), key := Value.str (Str.ofString "_siftdown") 431, val := Value.ref 176 }, { hash := PyData.keyHash P (Str.ofString "_siftup"), key := Value.str (Str.ofString "_siftup") 444, val := Value.ref 183 }, { hash := PyData.keyHash P (Str.ofString "_law_parents"), key := Value.str (Str.ofString "_law_parents") 458, val := Value.ref 190 }, { hash := PyData.keyHash P (Str.ofString "_law_joined"), key := Value.str (Str.ofString "_law_joined") 467, val := Value.ref 197 }, { hash := PyData.keyHash P (Str.ofString "_law_read"), key := Value.str (Str.ofString "_law_read") 473, val := Value.ref 202 }, { hash := PyData.keyHash P (Str.ofString "_law_marked"), key := Value.str (Str.ofString "_law_marked") 479, val := Value.ref 207 }, { hash := PyData.keyHash P (Str.ofString "_law_listed"), key := Value.str (Str.ofString "_law_listed") 485, val := Value.ref 212 }, { hash := PyData.keyHash P (Str.ofString "_law_reached"), key := Value.str (Str.ofString "_law_reached") 496, val := Value.ref 219 }, { hash := PyData.keyHash P (Str.ofString "_law_due"), key := Value.str (Str.ofString "_law_due") 502, val := Value.ref 224 }, { hash := PyData.keyHash P (Str.ofString "law"), key := Value.str (Str.ofString "law") 508, val := Value.ref 229 }] 29 }),
  (15, { cls := Value.type "tuple", data := Data.seq #[] }),
  (17, { cls := Value.type "tuple", data := Data.seq #[Value.str (Str.ofString "k") 190] }),
  (18, { cls := Value.type "tuple", data := Data.seq #[] }),
  (20, { cls := Value.type "code", data := Data.fields #[Value.str (Str.ofString "_wall") 187, Value.str (Str.ofString "_wall") 188, Value.str (Str.ofString "/claim/cut.py") 189, Value.int 1 0, Value.int 1 0, Value.int 0 0, Value.int 0 0, Value.int 3 0, Value.ref 15, Value.bool true, Value.int 181 0, Value.ref 16, Value.none, Value.ref 17, Value.ref 18, Value.ref 19, Value.int 191 0, Value.int 1 0, Value.str (Str.ofString "/claim/cut.py") 192] }),
  (21, { cls := Value.type "function", data := Data.func { name := Str.ofString "_wall", qualname := Str.ofString "_wall", params := fnParams (fnAt PySem.Challenge.pw_nq0219_02 0), body := .stmts (fnBody (fnAt PySem.Challenge.pw_nq0219_02 0)), scope := fnScope (fnAt PySem.Challenge.pw_nq0219_02 0), globals := 3, closure := [], defaults := Value.none, kwdefaults := Value.none, pyModule := Value.str (Str.ofString "__main__") 164, code := Value.ref 20 } }),
  (22, { cls := Value.type "tuple", data := Data.seq #[] }),
  (24, { cls := Value.type "tuple", data := Data.seq #[Value.str (Str.ofString "expected") 199, Value.str (Str.ofString "actual") 200, Value.str (Str.ofString "i") 201, Value.str (Str.ofString "j") 202, Value.str (Str.ofString "missing") 203, Value.str (Str.ofString "unexpected") 204, Value.str (Str.ofString "e") 205, Value.str (Str.ofString "a") 206] }),
  (25, { cls := Value.type "tuple", data := Data.seq #[] }),
  (27, { cls := Value.type "code", data := Data.fields #[Value.str (Str.ofString "sorted_list_difference") 196, Value.str (Str.ofString "sorted_list_difference") 197, Value.str (Str.ofString "/claim/cut.py") 198, Value.int 5 0, Value.int 2 0, Value.int 0 0, Value.int 0 0, Value.int 3 0, Value.ref 22, Value.bool true, Value.int 181 0, Value.ref 23, Value.none, Value.ref 24, Value.ref 25, Value.ref 26, Value.int 207 0, Value.int 5 0, Value.str (Str.ofString "/claim/cut.py") 208] }),
  (28, { cls := Value.type "function", data := Data.func { name := Str.ofString "sorted_list_difference", qualname := Str.ofString "sorted_list_difference", params := fnParams (fnAt PySem.Challenge.pw_nq0219_02 2), body := .stmts (fnBody (fnAt PySem.Challenge.pw_nq0219_02 2)), scope := fnScope (fnAt PySem.Challenge.pw_nq0219_02 2), globals := 3, closure := [], defaults := Value.none, kwdefaults := Value.none, pyModule := Value.str (Str.ofString "cpy313.unittest.util") 194, code := Value.ref 27 } }),
  (36, { cls := Value.type "tuple", data := Data.seq #[Value.str (Str.ofString "node") 230, Value.str (Str.ofString "npredecessors") 231, Value.str (Str.ofString "successors") 232] }),
  (37, { cls := Value.type "tuple", data := Data.seq #[] }),
  (39, { cls := Value.type "tuple", data := Data.seq #[Value.str (Str.ofString "self") 237, Value.str (Str.ofString "node") 238] }),
  (40, { cls := Value.type "tuple", data := Data.seq #[] }),
  (42, { cls := Value.type "code", data := Data.fields #[Value.str (Str.ofString "__init__") 234, Value.str (Str.ofString "_NodeInfo.__init__") 235, Value.str (Str.ofString "/claim/cut.py") 236, Value.int 43 0, Value.int 2 0, Value.int 0 0, Value.int 0 0, Value.int 3 0, Value.ref 37, Value.bool true, Value.int 181 0, Value.ref 38, Value.none, Value.ref 39, Value.ref 40, Value.ref 41, Value.int 239 0, Value.int 43 0, Value.str (Str.ofString "/claim/cut.py") 240] }),
  (43, { cls := Value.type "function", data := Data.func { name := Str.ofString "__init__", qualname := Str.ofString "_NodeInfo.__init__", params := fnParams (inAt (fnAt PySem.Challenge.pw_nq0219_02 6) 1), body := .stmts (fnBody (inAt (fnAt PySem.Challenge.pw_nq0219_02 6) 1)), scope := fnScope (inAt (fnAt PySem.Challenge.pw_nq0219_02 6) 1), globals := 3, closure := [], defaults := Value.none, kwdefaults := Value.none, pyModule := Value.str (Str.ofString "cpy313.graphlib") 210, code := Value.ref 42 } }),
  (44, { cls := Value.type "tuple", data := Data.seq #[Value.str (Str.ofString "node") 242, Value.str (Str.ofString "npredecessors") 243, Value.str (Str.ofString "successors") 244] }),
  (46, { cls := Value.type "dict", data := Data.dict #[{ hash := PyData.keyHash P (Str.ofString "__module__"), key := Value.str (Str.ofString "__module__") 225, val := Value.str (Str.ofString "cpy313.graphlib") 210 }, { hash := PyData.keyHash P (Str.ofString "__firstlineno__"), key := Value.str (Str.ofString "__firstlineno__") 229, val := Value.int 40 228 }, { hash := PyData.keyHash P (Str.ofString "__slots__"), key := Value.str (Str.ofString "__slots__") 233, val := Value.ref 36 }, { hash := PyData.keyHash P (Str.ofString "__init__"), key := Value.str (Str.ofString "__init__") 241, val := Value.ref 43 }, { hash := PyData.keyHash P (Str.ofString "__static_attributes__"), key := Value.str (Str.ofString "__static_attributes__") 245, val := Value.ref 44 }, { hash := PyData.keyHash P (Str.ofString "node"), key := Value.str (Str.ofString "node") 247, val := Value.ref 48 }, { hash := PyData.keyHash P (Str.ofString "npredecessors"), key := Value.str (Str.ofString "npredecessors") 249, val := Value.ref 49 }, { hash := PyData.keyHash P (Str.ofString "successors"), key := Value.str (Str.ofString "successors") 251, val := Value.ref 50 }, { hash := PyData.keyHash P (Str.ofString "__doc__"), key := Value.str (Str.ofString "__doc__") 252, val := Value.none }] 5 }),
  (47, { cls := Value.type "type", data := Data.cls { name := Str.ofString "_NodeInfo", bases := [Value.type "object"], mro := [Value.ref 47, Value.type "object"], ns := 46, qualname := Str.ofString "_NodeInfo", hasDict := false, slotNames := [Str.ofString "node", Str.ofString "npredecessors", Str.ofString "successors"] }, slots := #[none, none, some (Value.str (Str.ofString "_NodeInfo") 218), some (Value.str (Str.ofString "_NodeInfo") 226), some (Value.builtin "object.__new__"), some (Value.bool false)] }),
  (48, { cls := Value.type "member_descriptor", data := Data.fields #[Value.str (Str.ofString "node") 246, Value.ref 47, Value.builtin "proto.slot", Value.builtin "proto.slot#set", Value.int 2 0] }),
  (49, { cls := Value.type "member_descriptor", data := Data.fields #[Value.str (Str.ofString "npredecessors") 248, Value.ref 47, Value.builtin "proto.slot", Value.builtin "proto.slot#set", Value.int 1 0] }),
  (50, { cls := Value.type "member_descriptor", data := Data.fields #[Value.str (Str.ofString "successors") 250, Value.ref 47, Value.builtin "proto.slot", Value.builtin "proto.slot#set", Value.int 0 0] }),
  (53, { cls := Value.type "tuple", data := Data.seq #[Value.type "ValueError"] }),
  (60, { cls := Value.type "tuple", data := Data.seq #[] }),
  (61, { cls := Value.type "dict", data := Data.dict #[{ hash := PyData.keyHash P (Str.ofString "__module__"), key := Value.str (Str.ofString "__module__") 262, val := Value.str (Str.ofString "cpy313.graphlib") 210 }, { hash := PyData.keyHash P (Str.ofString "__firstlineno__"), key := Value.str (Str.ofString "__firstlineno__") 266, val := Value.int 47 265 }, { hash := PyData.keyHash P (Str.ofString "__static_attributes__"), key := Value.str (Str.ofString "__static_attributes__") 267, val := Value.ref 60 }, { hash := PyData.keyHash P (Str.ofString "__weakref__"), key := Value.str (Str.ofString "__weakref__") 269, val := Value.ref 63 }, { hash := PyData.keyHash P (Str.ofString "__doc__"), key := Value.str (Str.ofString "__doc__") 270, val := Value.none }] 3 }),
  (62, { cls := Value.type "type", data := Data.cls { name := Str.ofString "CycleError", bases := [Value.type "ValueError"], mro := [Value.ref 62, Value.type "ValueError", Value.type "Exception", Value.type "BaseException", Value.type "object"], ns := 61, qualname := Str.ofString "CycleError" }, slots := #[some (Value.ref 53), none, some (Value.str (Str.ofString "CycleError") 255), some (Value.str (Str.ofString "CycleError") 263), some (Value.builtin "ValueError.__new__"), some (Value.bool true)] }),
  (63, { cls := Value.type "getset_descriptor", data := Data.fields #[Value.str (Str.ofString "__weakref__") 268, Value.ref 62, Value.builtin "ExceptionGroup.__weakref__", Value.none] }),
  (73, { cls := Value.type "tuple", data := Data.seq #[Value.none] }),
  (74, { cls := Value.type "tuple", data := Data.seq #[] }),
  (76, { cls := Value.type "tuple", data := Data.seq #[Value.str (Str.ofString "self") 288, Value.str (Str.ofString "graph") 289, Value.str (Str.ofString "node") 290, Value.str (Str.ofString "predecessors") 291] }),
  (77, { cls := Value.type "tuple", data := Data.seq #[] }),
  (79, { cls := Value.type "code", data := Data.fields #[Value.str (Str.ofString "__init__") 285, Value.str (Str.ofString "TopologicalSorter.__init__") 286, Value.str (Str.ofString "/claim/cut.py") 287, Value.int 51 0, Value.int 2 0, Value.int 0 0, Value.int 0 0, Value.int 3 0, Value.ref 74, Value.bool true, Value.int 181 0, Value.ref 75, Value.none, Value.ref 76, Value.ref 77, Value.ref 78, Value.int 292 0, Value.int 51 0, Value.str (Str.ofString "/claim/cut.py") 293] }),
  (80, { cls := Value.type "function", data := Data.func { name := Str.ofString "__init__", qualname := Str.ofString "TopologicalSorter.__init__", params := fnParams (inAt (fnAt PySem.Challenge.pw_nq0219_02 8) 0), body := .stmts (fnBody (inAt (fnAt PySem.Challenge.pw_nq0219_02 8) 0)), scope := fnScope (inAt (fnAt PySem.Challenge.pw_nq0219_02 8) 0), globals := 3, closure := [], defaults := Value.ref 73, kwdefaults := Value.none, pyModule := Value.str (Str.ofString "cpy313.graphlib") 210, code := Value.ref 79 } }),
  (81, { cls := Value.type "tuple", data := Data.seq #[] }),
  (83, { cls := Value.type "tuple", data := Data.seq #[Value.str (Str.ofString "self") 298, Value.str (Str.ofString "node") 299, Value.str (Str.ofString "result") 300] }),
  (84, { cls := Value.type "tuple", data := Data.seq #[] }),
  (86, { cls := Value.type "code", data := Data.fields #[Value.str (Str.ofString "_get_nodeinfo") 295, Value.str (Str.ofString "TopologicalSorter._get_nodeinfo") 296, Value.str (Str.ofString "/claim/cut.py") 297, Value.int 60 0, Value.int 2 0, Value.int 0 0, Value.int 0 0, Value.int 3 0, Value.ref 81, Value.bool true, Value.int 181 0, Value.ref 82, Value.none, Value.ref 83, Value.ref 84, Value.ref 85, Value.int 301 0, Value.int 60 0, Value.str (Str.ofString "/claim/cut.py") 302] }),
  (87, { cls := Value.type "function", data := Data.func { name := Str.ofString "_get_nodeinfo", qualname := Str.ofString "TopologicalSorter._get_nodeinfo", params := fnParams (inAt (fnAt PySem.Challenge.pw_nq0219_02 8) 1), body := .stmts (fnBody (inAt (fnAt PySem.Challenge.pw_nq0219_02 8) 1)), scope := fnScope (inAt (fnAt PySem.Challenge.pw_nq0219_02 8) 1), globals := 3, closure := [], defaults := Value.none, kwdefaults := Value.none, pyModule := Value.str (Str.ofString "cpy313.graphlib") 210, code := Value.ref 86 } }),
  (88, { cls := Value.type "tuple", data := Data.seq #[] }),
  (90, { cls := Value.type "tuple", data := Data.seq #[Value.str (Str.ofString "self") 307, Value.str (Str.ofString "node") 308, Value.str (Str.ofString "predecessors") 309, Value.str (Str.ofString "nodeinfo") 310, Value.str (Str.ofString "pred") 311, Value.str (Str.ofString "pred_info") 312] }),
  (91, { cls := Value.type "tuple", data := Data.seq #[] }),
  (93, { cls := Value.type "code", data := Data.fields #[Value.str (Str.ofString "add") 304, Value.str (Str.ofString "TopologicalSorter.add") 305, Value.str (Str.ofString "/claim/cut.py") 306, Value.int 65 0, Value.int 2 0, Value.int 0 0, Value.int 0 0, Value.int 7 0, Value.ref 88, Value.bool true, Value.int 181 0, Value.ref 89, Value.none, Value.ref 90, Value.ref 91, Value.ref 92, Value.int 313 0, Value.int 65 0, Value.str (Str.ofString "/claim/cut.py") 314] }),
  (94, { cls := Value.type "function", data := Data.func { name := Str.ofString "add", qualname := Str.ofString "TopologicalSorter.add", params := fnParams (inAt (fnAt PySem.Challenge.pw_nq0219_02 8) 2), body := .stmts (fnBody (inAt (fnAt PySem.Challenge.pw_nq0219_02 8) 2)), scope := fnScope (inAt (fnAt PySem.Challenge.pw_nq0219_02 8) 2), globals := 3, closure := [], defaults := Value.none, kwdefaults := Value.none, pyModule := Value.str (Str.ofString "cpy313.graphlib") 210, code := Value.ref 93 } }),
  (95, { cls := Value.type "tuple", data := Data.seq #[] }),
  (98, { cls := Value.type "code", data := Data.fields #[Value.str (Str.ofString "prepare") 316, Value.str (Str.ofString "TopologicalSorter.prepare") 317, Value.str (Str.ofString "/claim/cut.py") 318, Value.int 74 0, Value.int 1 0, Value.int 0 0, Value.int 0 0, Value.int 3 0, Value.ref 95, Value.bool true, Value.int 181 0, Value.ref 96, Value.none, Value.none, Value.none, Value.ref 97, Value.int 319 0, Value.int 74 0, Value.str (Str.ofString "/claim/cut.py") 320] }),
  (99, { cls := Value.type "function", data := Data.func { name := Str.ofString "prepare", qualname := Str.ofString "TopologicalSorter.prepare", params := fnParams (inAt (fnAt PySem.Challenge.pw_nq0219_02 8) 3), body := .stmts (fnBody (inAt (fnAt PySem.Challenge.pw_nq0219_02 8) 3)), scope := fnScope (inAt (fnAt PySem.Challenge.pw_nq0219_02 8) 3), globals := 3, closure := [], defaults := Value.none, kwdefaults := Value.none, pyModule := Value.str (Str.ofString "cpy313.graphlib") 210, code := Value.ref 98 } }),
  (100, { cls := Value.type "tuple", data := Data.seq #[] }),
  (102, { cls := Value.type "tuple", data := Data.seq #[Value.str (Str.ofString "self") 325, Value.str (Str.ofString "result") 326, Value.str (Str.ofString "n2i") 327, Value.str (Str.ofString "node") 328] }),
  (103, { cls := Value.type "tuple", data := Data.seq #[] }),
  (105, { cls := Value.type "code", data := Data.fields #[Value.str (Str.ofString "get_ready") 322, Value.str (Str.ofString "TopologicalSorter.get_ready") 323, Value.str (Str.ofString "/claim/cut.py") 324, Value.int 82 0, Value.int 1 0, Value.int 0 0, Value.int 0 0, Value.int 3 0, Value.ref 100, Value.bool true, Value.int 181 0, Value.ref 101, Value.none, Value.ref 102, Value.ref 103, Value.ref 104, Value.int 329 0, Value.int 82 0, Value.str (Str.ofString "/claim/cut.py") 330] }),
  (106, { cls := Value.type "function", data := Data.func { name := Str.ofString "get_ready", qualname := Str.ofString "TopologicalSorter.get_ready", params := fnParams (inAt (fnAt PySem.Challenge.pw_nq0219_02 8) 4), body := .stmts (fnBody (inAt (fnAt PySem.Challenge.pw_nq0219_02 8) 4)), scope := fnScope (inAt (fnAt PySem.Challenge.pw_nq0219_02 8) 4), globals := 3, closure := [], defaults := Value.none, kwdefaults := Value.none, pyModule := Value.str (Str.ofString "cpy313.graphlib") 210, code := Value.ref 105 } }),
  (107, { cls := Value.type "tuple", data := Data.seq #[] }),
  (109, { cls := Value.type "tuple", data := Data.seq #[Value.str (Str.ofString "self") 335] }),
  (110, { cls := Value.type "tuple", data := Data.seq #[] }),
  (112, { cls := Value.type "code", data := Data.fields #[Value.str (Str.ofString "is_active") 332, Value.str (Str.ofString "TopologicalSorter.is_active") 333, Value.str (Str.ofString "/claim/cut.py") 334, Value.int 93 0, Value.int 1 0, Value.int 0 0, Value.int 0 0, Value.int 3 0, Value.ref 107, Value.bool true, Value.int 181 0, Value.ref 108, Value.none, Value.ref 109, Value.ref 110, Value.ref 111, Value.int 336 0, Value.int 93 0, Value.str (Str.ofString "/claim/cut.py") 337] }),
  (113, { cls := Value.type "function", data := Data.func { name := Str.ofString "is_active", qualname := Str.ofString "TopologicalSorter.is_active", params := fnParams (inAt (fnAt PySem.Challenge.pw_nq0219_02 8) 5), body := .stmts (fnBody (inAt (fnAt PySem.Challenge.pw_nq0219_02 8) 5)), scope := fnScope (inAt (fnAt PySem.Challenge.pw_nq0219_02 8) 5), globals := 3, closure := [], defaults := Value.none, kwdefaults := Value.none, pyModule := Value.str (Str.ofString "cpy313.graphlib") 210, code := Value.ref 112 } }),
  (114, { cls := Value.type "tuple", data := Data.seq #[] }),
  (116, { cls := Value.type "tuple", data := Data.seq #[Value.str (Str.ofString "self") 342] }),
  (117, { cls := Value.type "tuple", data := Data.seq #[] }),
  (119, { cls := Value.type "code", data := Data.fields #[Value.str (Str.ofString "__bool__") 339, Value.str (Str.ofString "TopologicalSorter.__bool__") 340, Value.str (Str.ofString "/claim/cut.py") 341, Value.int 98 0, Value.int 1 0, Value.int 0 0, Value.int 0 0, Value.int 3 0, Value.ref 114, Value.bool true, Value.int 181 0, Value.ref 115, Value.none, Value.ref 116, Value.ref 117, Value.ref 118, Value.int 343 0, Value.int 98 0, Value.str (Str.ofString "/claim/cut.py") 344] }),
  (120, { cls := Value.type "function", data := Data.func { name := Str.ofString "__bool__", qualname := Str.ofString "TopologicalSorter.__bool__", params := fnParams (inAt (fnAt PySem.Challenge.pw_nq0219_02 8) 6), body := .stmts (fnBody (inAt (fnAt PySem.Challenge.pw_nq0219_02 8) 6)), scope := fnScope (inAt (fnAt PySem.Challenge.pw_nq0219_02 8) 6), globals := 3, closure := [], defaults := Value.none, kwdefaults := Value.none, pyModule := Value.str (Str.ofString "cpy313.graphlib") 210, code := Value.ref 119 } }),
  (121, { cls := Value.type "tuple", data := Data.seq #[] }),
  (123, { cls := Value.type "tuple", data := Data.seq #[Value.str (Str.ofString "self") 349, Value.str (Str.ofString "nodes") 350, Value.str (Str.ofString "n2i") 351, Value.str (Str.ofString "node") 352, Value.str (Str.ofString "nodeinfo") 353, Value.str (Str.ofString "stat") 354, Value.str (Str.ofString "successor") 355, Value.str (Str.ofString "successor_info") 356] }),
  (124, { cls := Value.type "tuple", data := Data.seq #[] }),
  (126, { cls := Value.type "code", data := Data.fields #[Value.str (Str.ofString "done") 346, Value.str (Str.ofString "TopologicalSorter.done") 347, Value.str (Str.ofString "/claim/cut.py") 348, Value.int 101 0, Value.int 1 0, Value.int 0 0, Value.int 0 0, Value.int 7 0, Value.ref 121, Value.bool true, Value.int 181 0, Value.ref 122, Value.none, Value.ref 123, Value.ref 124, Value.ref 125, Value.int 357 0, Value.int 101 0, Value.str (Str.ofString "/claim/cut.py") 358] }),
  (127, { cls := Value.type "function", data := Data.func { name := Str.ofString "done", qualname := Str.ofString "TopologicalSorter.done", params := fnParams (inAt (fnAt PySem.Challenge.pw_nq0219_02 8) 7), body := .stmts (fnBody (inAt (fnAt PySem.Challenge.pw_nq0219_02 8) 7)), scope := fnScope (inAt (fnAt PySem.Challenge.pw_nq0219_02 8) 7), globals := 3, closure := [], defaults := Value.none, kwdefaults := Value.none, pyModule := Value.str (Str.ofString "cpy313.graphlib") 210, code := Value.ref 126 } }),
  (128, { cls := Value.type "tuple", data := Data.seq #[] }),
  (130, { cls := Value.type "tuple", data := Data.seq #[Value.str (Str.ofString "self") 363, Value.str (Str.ofString "n2i") 364, Value.str (Str.ofString "stack") 365, Value.str (Str.ofString "itstack") 366, Value.str (Str.ofString "seen") 367, Value.str (Str.ofString "node2stacki") 368, Value.str (Str.ofString "node") 369] }),
  (131, { cls := Value.type "tuple", data := Data.seq #[] }),
  (133, { cls := Value.type "code", data := Data.fields #[Value.str (Str.ofString "_find_cycle") 360, Value.str (Str.ofString "TopologicalSorter._find_cycle") 361, Value.str (Str.ofString "/claim/cut.py") 362, Value.int 124 0, Value.int 1 0, Value.int 0 0, Value.int 0 0, Value.int 3 0, Value.ref 128, Value.bool true, Value.int 181 0, Value.ref 129, Value.none, Value.ref 130, Value.ref 131, Value.ref 132, Value.int 370 0, Value.int 124 0, Value.str (Str.ofString "/claim/cut.py") 371] }),
  (134, { cls := Value.type "function", data := Data.func { name := Str.ofString "_find_cycle", qualname := Str.ofString "TopologicalSorter._find_cycle", params := fnParams (inAt (fnAt PySem.Challenge.pw_nq0219_02 8) 8), body := .stmts (fnBody (inAt (fnAt PySem.Challenge.pw_nq0219_02 8) 8)), scope := fnScope (inAt (fnAt PySem.Challenge.pw_nq0219_02 8) 8), globals := 3, closure := [], defaults := Value.none, kwdefaults := Value.none, pyModule := Value.str (Str.ofString "cpy313.graphlib") 210, code := Value.ref 133 } }),
  (135, { cls := Value.type "tuple", data := Data.seq #[] }),
  (137, { cls := Value.type "tuple", data := Data.seq #[Value.str (Str.ofString "self") 376] }),
  (138, { cls := Value.type "tuple", data := Data.seq #[] }),
  (140, { cls := Value.type "code", data := Data.fields #[Value.str (Str.ofString "static_order") 373, Value.str (Str.ofString "TopologicalSorter.static_order") 374, Value.str (Str.ofString "/claim/cut.py") 375, Value.int 153 0, Value.int 1 0, Value.int 0 0, Value.int 0 0, Value.int 3 0, Value.ref 135, Value.bool true, Value.int 181 0, Value.ref 136, Value.none, Value.ref 137, Value.ref 138, Value.ref 139, Value.int 377 0, Value.int 153 0, Value.str (Str.ofString "/claim/cut.py") 378] }),
  (141, { cls := Value.type "function", data := Data.func { name := Str.ofString "static_order", qualname := Str.ofString "TopologicalSorter.static_order", params := fnParams (inAt (fnAt PySem.Challenge.pw_nq0219_02 8) 9), body := .stmts (fnBody (inAt (fnAt PySem.Challenge.pw_nq0219_02 8) 9)), scope := fnScope (inAt (fnAt PySem.Challenge.pw_nq0219_02 8) 9), globals := 3, closure := [], defaults := Value.none, kwdefaults := Value.none, pyModule := Value.str (Str.ofString "cpy313.graphlib") 210, code := Value.ref 140 } }),
  (142, { cls := Value.type "tuple", data := Data.seq #[Value.str (Str.ofString "_nfinished") 380, Value.str (Str.ofString "_node2info") 381, Value.str (Str.ofString "_npassedout") 382, Value.str (Str.ofString "_ready_nodes") 383] }),
  (143, { cls := Value.type "dict", data := Data.dict #[{ hash := PyData.keyHash P (Str.ofString "__module__"), key := Value.str (Str.ofString "__module__") 280, val := Value.str (Str.ofString "cpy313.graphlib") 210 }, { hash := PyData.keyHash P (Str.ofString "__firstlineno__"), key := Value.str (Str.ofString "__firstlineno__") 284, val := Value.int 49 283 }, { hash := PyData.keyHash P (Str.ofString "__init__"), key := Value.str (Str.ofString "__init__") 294, val := Value.ref 80 }, { hash := PyData.keyHash P (Str.ofString "_get_nodeinfo"), key := Value.str (Str.ofString "_get_nodeinfo") 303, val := Value.ref 87 }, { hash := PyData.keyHash P (Str.ofString "add"), key := Value.str (Str.ofString "add") 315, val := Value.ref 94 }, { hash := PyData.keyHash P (Str.ofString "prepare"), key := Value.str (Str.ofString "prepare") 321, val := Value.ref 99 }, { hash := PyData.keyHash P (Str.ofString "get_ready"), key := Value.str (Str.ofString "get_ready") 331, val := Value.ref 106 }, { hash := PyData.keyHash P (Str.ofString "is_active"), key := Value.str (Str.ofString "is_active") 338, val := Value.ref 113 }, { hash := PyData.keyHash P (Str.ofString "__bool__"), key := Value.str (Str.ofString "__bool__") 345, val := Value.ref 120 }, { hash := PyData.keyHash P (Str.ofString "done"), key := Value.str (Str.ofString "done") 359, val := Value.ref 127 }, { hash := PyData.keyHash P (Str.ofString "_find_cycle"), key := Value.str (Str.ofString "_find_cycle") 372, val := Value.ref 134 }, { hash := PyData.keyHash P (Str.ofString "static_order"), key := Value.str (Str.ofString "static_order") 379, val := Value.ref 141 }, { hash := PyData.keyHash P (Str.ofString "__static_attributes__"), key := Value.str (Str.ofString "__static_attributes__") 384, val := Value.ref 142 }, { hash := PyData.keyHash P (Str.ofString "__dict__"), key := Value.str (Str.ofString "__dict__") 386, val := Value.ref 145 }, { hash := PyData.keyHash P (Str.ofString "__weakref__"), key := Value.str (Str.ofString "__weakref__") 388, val := Value.ref 146 }, { hash := PyData.keyHash P (Str.ofString "__doc__"), key := Value.str (Str.ofString "__doc__") 389, val := Value.none }] 4 }),
  (144, { cls := Value.type "type", data := Data.cls { name := Str.ofString "TopologicalSorter", bases := [Value.type "object"], mro := [Value.ref 144, Value.type "object"], ns := 143, qualname := Str.ofString "TopologicalSorter" }, slots := #[none, none, some (Value.str (Str.ofString "TopologicalSorter") 273), some (Value.str (Str.ofString "TopologicalSorter") 281), some (Value.builtin "object.__new__"), some (Value.bool true)] }),
  (145, { cls := Value.type "getset_descriptor", data := Data.fields #[Value.str (Str.ofString "__dict__") 385, Value.ref 144, Value.builtin "function.__dict__", Value.builtin "function.__dict__#set"] }),
  (146, { cls := Value.type "getset_descriptor", data := Data.fields #[Value.str (Str.ofString "__weakref__") 387, Value.ref 144, Value.builtin "ExceptionGroup.__weakref__", Value.none] }),
  (149, { cls := Value.type "tuple", data := Data.seq #[] }),
  (151, { cls := Value.type "tuple", data := Data.seq #[Value.str (Str.ofString "heap") 397, Value.str (Str.ofString "item") 398] }),
  (152, { cls := Value.type "tuple", data := Data.seq #[] }),
  (154, { cls := Value.type "code", data := Data.fields #[Value.str (Str.ofString "heappush") 394, Value.str (Str.ofString "heappush") 395, Value.str (Str.ofString "/claim/cut.py") 396, Value.int 156 0, Value.int 2 0, Value.int 0 0, Value.int 0 0, Value.int 3 0, Value.ref 149, Value.bool true, Value.int 181 0, Value.ref 150, Value.none, Value.ref 151, Value.ref 152, Value.ref 153, Value.int 399 0, Value.int 156 0, Value.str (Str.ofString "/claim/cut.py") 400] }),
  (155, { cls := Value.type "function", data := Data.func { name := Str.ofString "heappush", qualname := Str.ofString "heappush", params := fnParams (fnAt PySem.Challenge.pw_nq0219_02 10), body := .stmts (fnBody (fnAt PySem.Challenge.pw_nq0219_02 10)), scope := fnScope (fnAt PySem.Challenge.pw_nq0219_02 10), globals := 3, closure := [], defaults := Value.none, kwdefaults := Value.none, pyModule := Value.str (Str.ofString "cpy313.heapq") 392, code := Value.ref 154 } }),
  (156, { cls := Value.type "tuple", data := Data.seq #[] }),
  (158, { cls := Value.type "tuple", data := Data.seq #[Value.str (Str.ofString "heap") 405, Value.str (Str.ofString "lastelt") 406, Value.str (Str.ofString "returnitem") 407] }),
  (159, { cls := Value.type "tuple", data := Data.seq #[] }),
  (161, { cls := Value.type "code", data := Data.fields #[Value.str (Str.ofString "heappop") 402, Value.str (Str.ofString "heappop") 403, Value.str (Str.ofString "/claim/cut.py") 404, Value.int 159 0, Value.int 1 0, Value.int 0 0, Value.int 0 0, Value.int 3 0, Value.ref 156, Value.bool true, Value.int 181 0, Value.ref 157, Value.none, Value.ref 158, Value.ref 159, Value.ref 160, Value.int 408 0, Value.int 159 0, Value.str (Str.ofString "/claim/cut.py") 409] }),
  (162, { cls := Value.type "function", data := Data.func { name := Str.ofString "heappop", qualname := Str.ofString "heappop", params := fnParams (fnAt PySem.Challenge.pw_nq0219_02 11), body := .stmts (fnBody (fnAt PySem.Challenge.pw_nq0219_02 11)), scope := fnScope (fnAt PySem.Challenge.pw_nq0219_02 11), globals := 3, closure := [], defaults := Value.none, kwdefaults := Value.none, pyModule := Value.str (Str.ofString "cpy313.heapq") 392, code := Value.ref 161 } }),
  (163, { cls := Value.type "tuple", data := Data.seq #[] }),
  (165, { cls := Value.type "tuple", data := Data.seq #[Value.str (Str.ofString "x") 414, Value.str (Str.ofString "n") 415, Value.str (Str.ofString "i") 416] }),
  (166, { cls := Value.type "tuple", data := Data.seq #[] }),
  (168, { cls := Value.type "code", data := Data.fields #[Value.str (Str.ofString "heapify") 411, Value.str (Str.ofString "heapify") 412, Value.str (Str.ofString "/claim/cut.py") 413, Value.int 167 0, Value.int 1 0, Value.int 0 0, Value.int 0 0, Value.int 3 0, Value.ref 163, Value.bool true, Value.int 181 0, Value.ref 164, Value.none, Value.ref 165, Value.ref 166, Value.ref 167, Value.int 417 0, Value.int 167 0, Value.str (Str.ofString "/claim/cut.py") 418] }),
  (169, { cls := Value.type "function", data := Data.func { name := Str.ofString "heapify", qualname := Str.ofString "heapify", params := fnParams (fnAt PySem.Challenge.pw_nq0219_02 12), body := .stmts (fnBody (fnAt PySem.Challenge.pw_nq0219_02 12)), scope := fnScope (fnAt PySem.Challenge.pw_nq0219_02 12), globals := 3, closure := [], defaults := Value.none, kwdefaults := Value.none, pyModule := Value.str (Str.ofString "cpy313.heapq") 392, code := Value.ref 168 } }),
  (170, { cls := Value.type "tuple", data := Data.seq #[] }),
  (172, { cls := Value.type "tuple", data := Data.seq #[Value.str (Str.ofString "heap") 423, Value.str (Str.ofString "startpos") 424, Value.str (Str.ofString "pos") 425, Value.str (Str.ofString "newitem") 426, Value.str (Str.ofString "parentpos") 427, Value.str (Str.ofString "parent") 428] }),
  (173, { cls := Value.type "tuple", data := Data.seq #[] }),
  (175, { cls := Value.type "code", data := Data.fields #[Value.str (Str.ofString "_siftdown") 420, Value.str (Str.ofString "_siftdown") 421, Value.str (Str.ofString "/claim/cut.py") 422, Value.int 171 0, Value.int 3 0, Value.int 0 0, Value.int 0 0, Value.int 3 0, Value.ref 170, Value.bool true, Value.int 181 0, Value.ref 171, Value.none, Value.ref 172, Value.ref 173, Value.ref 174, Value.int 429 0, Value.int 171 0, Value.str (Str.ofString "/claim/cut.py") 430] }),
  (176, { cls := Value.type "function", data := Data.func { name := Str.ofString "_siftdown", qualname := Str.ofString "_siftdown", params := fnParams (fnAt PySem.Challenge.pw_nq0219_02 13), body := .stmts (fnBody (fnAt PySem.Challenge.pw_nq0219_02 13)), scope := fnScope (fnAt PySem.Challenge.pw_nq0219_02 13), globals := 3, closure := [], defaults := Value.none, kwdefaults := Value.none, pyModule := Value.str (Str.ofString "cpy313.heapq") 392, code := Value.ref 175 } }),
  (177, { cls := Value.type "tuple", data := Data.seq #[] }),
  (179, { cls := Value.type "tuple", data := Data.seq #[Value.str (Str.ofString "heap") 435, Value.str (Str.ofString "pos") 436, Value.str (Str.ofString "endpos") 437, Value.str (Str.ofString "startpos") 438, Value.str (Str.ofString "newitem") 439, Value.str (Str.ofString "childpos") 440, Value.str (Str.ofString "rightpos") 441] }),
  (180, { cls := Value.type "tuple", data := Data.seq #[] }),
  (182, { cls := Value.type "code", data := Data.fields #[Value.str (Str.ofString "_siftup") 432, Value.str (Str.ofString "_siftup") 433, Value.str (Str.ofString "/claim/cut.py") 434, Value.int 182 0, Value.int 2 0, Value.int 0 0, Value.int 0 0, Value.int 3 0, Value.ref 177, Value.bool true, Value.int 181 0, Value.ref 178, Value.none, Value.ref 179, Value.ref 180, Value.ref 181, Value.int 442 0, Value.int 182 0, Value.str (Str.ofString "/claim/cut.py") 443] }),
  (183, { cls := Value.type "function", data := Data.func { name := Str.ofString "_siftup", qualname := Str.ofString "_siftup", params := fnParams (fnAt PySem.Challenge.pw_nq0219_02 14), body := .stmts (fnBody (fnAt PySem.Challenge.pw_nq0219_02 14)), scope := fnScope (fnAt PySem.Challenge.pw_nq0219_02 14), globals := 3, closure := [], defaults := Value.none, kwdefaults := Value.none, pyModule := Value.str (Str.ofString "cpy313.heapq") 392, code := Value.ref 182 } }),
  (184, { cls := Value.type "tuple", data := Data.seq #[] }),
  (186, { cls := Value.type "tuple", data := Data.seq #[Value.str (Str.ofString "wants") 450, Value.str (Str.ofString "names") 451, Value.str (Str.ofString "parents") 452, Value.str (Str.ofString "place") 453, Value.str (Str.ofString "row") 454, Value.str (Str.ofString "pick") 455] }),
  (187, { cls := Value.type "tuple", data := Data.seq #[] }),
  (189, { cls := Value.type "code", data := Data.fields #[Value.str (Str.ofString "_law_parents") 447, Value.str (Str.ofString "_law_parents") 448, Value.str (Str.ofString "/claim/cut.py") 449, Value.int 197 0, Value.int 2 0, Value.int 0 0, Value.int 0 0, Value.int 3 0, Value.ref 184, Value.bool true, Value.int 181 0, Value.ref 185, Value.none, Value.ref 186, Value.ref 187, Value.ref 188, Value.int 456 0, Value.int 197 0, Value.str (Str.ofString "/claim/cut.py") 457] }),
  (190, { cls := Value.type "function", data := Data.func { name := Str.ofString "_law_parents", qualname := Str.ofString "_law_parents", params := fnParams (fnAt PySem.Challenge.pw_nq0219_02 16), body := .stmts (fnBody (fnAt PySem.Challenge.pw_nq0219_02 16)), scope := fnScope (fnAt PySem.Challenge.pw_nq0219_02 16), globals := 3, closure := [], defaults := Value.none, kwdefaults := Value.none, pyModule := Value.str (Str.ofString "law_nq0219_02") 445, code := Value.ref 189 } }),
  (191, { cls := Value.type "tuple", data := Data.seq #[] }),
  (193, { cls := Value.type "tuple", data := Data.seq #[Value.str (Str.ofString "rows") 462, Value.str (Str.ofString "whole") 463, Value.str (Str.ofString "row") 464] }),
  (194, { cls := Value.type "tuple", data := Data.seq #[] }),
  (196, { cls := Value.type "code", data := Data.fields #[Value.str (Str.ofString "_law_joined") 459, Value.str (Str.ofString "_law_joined") 460, Value.str (Str.ofString "/claim/cut.py") 461, Value.int 206 0, Value.int 1 0, Value.int 0 0, Value.int 0 0, Value.int 3 0, Value.ref 191, Value.bool true, Value.int 181 0, Value.ref 192, Value.none, Value.ref 193, Value.ref 194, Value.ref 195, Value.int 465 0, Value.int 206 0, Value.str (Str.ofString "/claim/cut.py") 466] }),
  (197, { cls := Value.type "function", data := Data.func { name := Str.ofString "_law_joined", qualname := Str.ofString "_law_joined", params := fnParams (fnAt PySem.Challenge.pw_nq0219_02 17), body := .stmts (fnBody (fnAt PySem.Challenge.pw_nq0219_02 17)), scope := fnScope (fnAt PySem.Challenge.pw_nq0219_02 17), globals := 3, closure := [], defaults := Value.none, kwdefaults := Value.none, pyModule := Value.str (Str.ofString "law_nq0219_02") 445, code := Value.ref 196 } }),
  (198, { cls := Value.type "tuple", data := Data.seq #[] }),
  (201, { cls := Value.type "code", data := Data.fields #[Value.str (Str.ofString "_law_read") 468, Value.str (Str.ofString "_law_read") 469, Value.str (Str.ofString "/claim/cut.py") 470, Value.int 211 0, Value.int 1 0, Value.int 0 0, Value.int 0 0, Value.int 3 0, Value.ref 198, Value.bool true, Value.int 181 0, Value.ref 199, Value.none, Value.none, Value.none, Value.ref 200, Value.int 471 0, Value.int 211 0, Value.str (Str.ofString "/claim/cut.py") 472] }),
  (202, { cls := Value.type "function", data := Data.func { name := Str.ofString "_law_read", qualname := Str.ofString "_law_read", params := fnParams (fnAt PySem.Challenge.pw_nq0219_02 18), body := .stmts (fnBody (fnAt PySem.Challenge.pw_nq0219_02 18)), scope := fnScope (fnAt PySem.Challenge.pw_nq0219_02 18), globals := 3, closure := [], defaults := Value.none, kwdefaults := Value.none, pyModule := Value.str (Str.ofString "law_nq0219_02") 445, code := Value.ref 201 } }),
  (203, { cls := Value.type "tuple", data := Data.seq #[] }),
  (206, { cls := Value.type "code", data := Data.fields #[Value.str (Str.ofString "_law_marked") 474, Value.str (Str.ofString "_law_marked") 475, Value.str (Str.ofString "/claim/cut.py") 476, Value.int 222 0, Value.int 4 0, Value.int 0 0, Value.int 0 0, Value.int 3 0, Value.ref 203, Value.bool true, Value.int 181 0, Value.ref 204, Value.none, Value.none, Value.none, Value.ref 205, Value.int 477 0, Value.int 222 0, Value.str (Str.ofString "/claim/cut.py") 478] }),
  (207, { cls := Value.type "function", data := Data.func { name := Str.ofString "_law_marked", qualname := Str.ofString "_law_marked", params := fnParams (fnAt PySem.Challenge.pw_nq0219_02 19), body := .stmts (fnBody (fnAt PySem.Challenge.pw_nq0219_02 19)), scope := fnScope (fnAt PySem.Challenge.pw_nq0219_02 19), globals := 3, closure := [], defaults := Value.none, kwdefaults := Value.none, pyModule := Value.str (Str.ofString "law_nq0219_02") 445, code := Value.ref 206 } }),
  (208, { cls := Value.type "tuple", data := Data.seq #[] }),
  (211, { cls := Value.type "code", data := Data.fields #[Value.str (Str.ofString "_law_listed") 480, Value.str (Str.ofString "_law_listed") 481, Value.str (Str.ofString "/claim/cut.py") 482, Value.int 239 0, Value.int 3 0, Value.int 0 0, Value.int 0 0, Value.int 3 0, Value.ref 208, Value.bool true, Value.int 181 0, Value.ref 209, Value.none, Value.none, Value.none, Value.ref 210, Value.int 483 0, Value.int 239 0, Value.str (Str.ofString "/claim/cut.py") 484] }),
  (212, { cls := Value.type "function", data := Data.func { name := Str.ofString "_law_listed", qualname := Str.ofString "_law_listed", params := fnParams (fnAt PySem.Challenge.pw_nq0219_02 20), body := .stmts (fnBody (fnAt PySem.Challenge.pw_nq0219_02 20)), scope := fnScope (fnAt PySem.Challenge.pw_nq0219_02 20), globals := 3, closure := [], defaults := Value.none, kwdefaults := Value.none, pyModule := Value.str (Str.ofString "law_nq0219_02") 445, code := Value.ref 211 } }),
  (213, { cls := Value.type "tuple", data := Data.seq #[] }),
  (215, { cls := Value.type "tuple", data := Data.seq #[Value.str (Str.ofString "parents") 489, Value.str (Str.ofString "names") 490, Value.str (Str.ofString "heads") 491, Value.str (Str.ofString "reached") 492, Value.str (Str.ofString "name") 493] }),
  (216, { cls := Value.type "tuple", data := Data.seq #[] }),
  (218, { cls := Value.type "code", data := Data.fields #[Value.str (Str.ofString "_law_reached") 486, Value.str (Str.ofString "_law_reached") 487, Value.str (Str.ofString "/claim/cut.py") 488, Value.int 245 0, Value.int 3 0, Value.int 0 0, Value.int 0 0, Value.int 3 0, Value.ref 213, Value.bool true, Value.int 181 0, Value.ref 214, Value.none, Value.ref 215, Value.ref 216, Value.ref 217, Value.int 494 0, Value.int 245 0, Value.str (Str.ofString "/claim/cut.py") 495] }),
  (219, { cls := Value.type "function", data := Data.func { name := Str.ofString "_law_reached", qualname := Str.ofString "_law_reached", params := fnParams (fnAt PySem.Challenge.pw_nq0219_02 21), body := .stmts (fnBody (fnAt PySem.Challenge.pw_nq0219_02 21)), scope := fnScope (fnAt PySem.Challenge.pw_nq0219_02 21), globals := 3, closure := [], defaults := Value.none, kwdefaults := Value.none, pyModule := Value.str (Str.ofString "law_nq0219_02") 445, code := Value.ref 218 } }),
  (220, { cls := Value.type "tuple", data := Data.seq #[] }),
  (223, { cls := Value.type "code", data := Data.fields #[Value.str (Str.ofString "_law_due") 497, Value.str (Str.ofString "_law_due") 498, Value.str (Str.ofString "/claim/cut.py") 499, Value.int 251 0, Value.int 4 0, Value.int 0 0, Value.int 0 0, Value.int 3 0, Value.ref 220, Value.bool true, Value.int 181 0, Value.ref 221, Value.none, Value.none, Value.none, Value.ref 222, Value.int 500 0, Value.int 251 0, Value.str (Str.ofString "/claim/cut.py") 501] }),
  (224, { cls := Value.type "function", data := Data.func { name := Str.ofString "_law_due", qualname := Str.ofString "_law_due", params := fnParams (fnAt PySem.Challenge.pw_nq0219_02 22), body := .stmts (fnBody (fnAt PySem.Challenge.pw_nq0219_02 22)), scope := fnScope (fnAt PySem.Challenge.pw_nq0219_02 22), globals := 3, closure := [], defaults := Value.none, kwdefaults := Value.none, pyModule := Value.str (Str.ofString "law_nq0219_02") 445, code := Value.ref 223 } }),
  (225, { cls := Value.type "tuple", data := Data.seq #[] }),
  (228, { cls := Value.type "code", data := Data.fields #[Value.str (Str.ofString "law") 503, Value.str (Str.ofString "law") 504, Value.str (Str.ofString "/claim/cut.py") 505, Value.int 256 0, Value.int 1 0, Value.int 0 0, Value.int 0 0, Value.int 3 0, Value.ref 225, Value.bool true, Value.int 181 0, Value.ref 226, Value.none, Value.none, Value.none, Value.ref 227, Value.int 506 0, Value.int 256 0, Value.str (Str.ofString "/claim/cut.py") 507] }),
  (229, { cls := Value.type "function", data := Data.func { name := Str.ofString "law", qualname := Str.ofString "law", params := fnParams (fnAt PySem.Challenge.pw_nq0219_02 23), body := .stmts (fnBody (fnAt PySem.Challenge.pw_nq0219_02 23)), scope := fnScope (fnAt PySem.Challenge.pw_nq0219_02 23), globals := 3, closure := [], defaults := Value.none, kwdefaults := Value.none, pyModule := Value.str (Str.ofString "law_nq0219_02") 445, code := Value.ref 228 } })]
noncomputable def as2 : List Addr := [2, 3, 15, 17, 18, 20, 21, 22, 24, 25, 27, 28, 36, 37, 39, 40, 42, 43, 44, 46, 47, 48, 49, 50, 53, 60, 61, 62, 63, 73, 74, 76, 77, 79, 80, 81, 83, 84, 86, 87, 88, 90, 91, 93, 94, 95, 98, 99, 100, 102, 103, 105, 106, 107, 109, 110, 112, 113, 114, 116, 117, 119, 120, 121, 123, 124, 126, 127, 128, 130, 131, 133, 134, 135, 137, 138, 140, 141, 142, 143, 144, 145, 146, 149, 151, 152, 154, 155, 156, 158, 159, 161, 162, 163, 165, 166, 168, 169, 170, 172, 173, 175, 176, 177, 179, 180, 182, 183, 184, 186, 187, 189, 190, 191, 193, 194, 196, 197, 198, 201, 202, 203, 206, 207, 208, 211, 212, 213, 215, 216, 218, 219, 220, 223, 224, 225, 228, 229]

theorem as2_eq : ∀ P, as2 = (K2 P).map (·.1) := fun P => by kernel_rfl
noncomputable def H2 : Hook := kHook K2 as2 as2_eq
/-- the text cut down to what the head looks at -/
noncomputable def q2 : Program := { PySem.Challenge.pw_nq0219_02 with main := { PySem.Challenge.pw_nq0219_02.main with body := [23].filterMap fun i => PySem.Challenge.pw_nq0219_02.main.body[i]? } }
theorem left2 : LeftO (PySem.Challenge.rw_nq0219_02.row.prog) q2 [Str.ofString "_wall", Str.ofString "__name__", Str.ofString "_NODE_OUT", Str.ofString "_NODE_DONE", Str.ofString "_NodeInfo", Str.ofString "CycleError", Str.ofString "TopologicalSorter", Str.ofString "heappush", Str.ofString "heappop", Str.ofString "heapify", Str.ofString "_siftdown", Str.ofString "_siftup", Str.ofString "sorted_list_difference", Str.ofString "_law_parents", Str.ofString "_law_joined", Str.ofString "_law_read", Str.ofString "_law_marked", Str.ofString "_law_listed", Str.ofString "_law_reached", Str.ofString "_law_due"] (fun s => xlAt q2 [] s && recOk (RowW.records PySem.Challenge.rw_nq0219_02.row.toRowW) s) (Hook.obs H2) (Hook.val H2) 3200 := by
  intro w
  kernel_rfl
noncomputable def d2 : DefRec × List (Str × Expr) := (defOf q2 PySem.Challenge.rw_nq0219_02.row.name).getD (⟨PySem.Challenge.rw_nq0219_02.row.name, fnParams (fnAt PySem.Challenge.pw_nq0219_02 0), [], fnScope (fnAt PySem.Challenge.pw_nq0219_02 0), ⟨0, 0, 0, 0⟩⟩, [])
theorem said2 : PySem.Challenge.rw_nq0219_02.wellSaid = true := by kernel_rfl
theorem hd2 (walk : WalkO q2 [Str.ofString "_wall", Str.ofString "__name__", Str.ofString "_NODE_OUT", Str.ofString "_NODE_DONE", Str.ofString "_NodeInfo", Str.ofString "CycleError", Str.ofString "TopologicalSorter", Str.ofString "heappush", Str.ofString "heappop", Str.ofString "heapify", Str.ofString "_siftdown", Str.ofString "_siftup", Str.ofString "sorted_list_difference", Str.ofString "_law_parents", Str.ofString "_law_joined", Str.ofString "_law_read", Str.ofString "_law_marked", Str.ofString "_law_listed", Str.ofString "_law_reached", Str.ofString "_law_due"] (XL q2 []) (Hook.says H2) PySem.Challenge.rw_nq0219_02.row.toRowW d2.1 d2.2 fun f vs => PySem.call f vs) : PySem.Challenge.rw_nq0219_02.Holds := by
  refine holds_law said2 fun said => ?_
  refine holds_open (q := q2) (loose := [Str.ofString "_wall", Str.ofString "__name__", Str.ofString "_NODE_OUT", Str.ofString "_NODE_DONE", Str.ofString "_NodeInfo", Str.ofString "CycleError", Str.ofString "TopologicalSorter", Str.ofString "heappush", Str.ofString "heappop", Str.ofString "heapify", Str.ofString "_siftdown", Str.ofString "_siftup", Str.ofString "sorted_list_difference", Str.ofString "_law_parents", Str.ofString "_law_joined", Str.ofString "_law_read", Str.ofString "_law_marked", Str.ofString "_law_listed", Str.ofString "_law_reached", Str.ofString "_law_due"]) (Xt := fun s => xlAt q2 [] s && recOk (RowW.records PySem.Challenge.rw_nq0219_02.row.toRowW) s) (XP := XL q2 []) (Yf := Hook.obs H2) (Ya := Hook.val H2) (YP := Hook.says H2) (N := 3200) left2 (Hook.of H2) (Hook.keeps H2) (fun s e => xl_of s (Bool.and_eq_true_iff.mp e).1) XL.keeps (d := d2.1) (kwd := d2.2) ?h1 ?h2 ?h3 (fun s e => recFacts_of (Bool.and_eq_true_iff.mp e).2) (by rfl) said (by decide +kernel) ⟨rfl, rfl, rfl, rfl, rfl, by decide +kernel⟩ ?hw walk
  case h1 => kernel_rfl
  case h2 => kernel_rfl
  case h3 => kernel_rfl
  case hw => w_witness2
end Mine
end
noncomputable section
open PySem PySem.W PyProof.Rows PySem.Calls PySem.SeqAt
set_option Elab.async false
set_option linter.unusedVariables false
set_option maxRecDepth 100000
set_option maxHeartbeats 4000000
namespace Mine
def ad2 : Ad := { heappush := 155, heappop := 162, heapify := 169, siftdown := 176, siftup := 183, sld := 28, CT := 144, CN := 47, initT := 80, initN := 43, get := 87, add := 94, prep := 99, ready := 106, active := 113, done := 127, cyc := 134, dNode := 48, dNp := 49, dSucc := 50, joined := 197, read := 202, following := 0, switched := 0, lparents := 190, marked := 207, listed := 212, reached := 219, due := 224, tOut := 213, tDone := 216 }
section
variable {P : Params} {a : Addr} {is : List Int}
theorem facts2 : Facts (topS (K2 P) a is) ad2 := by
  constructor
  all_goals first
    | exact rfl
    | (intro x; kernel_rfl)
    | kernel_rfl
    | (constructor <;> kernel_rfl)

theorem b1 {fd : FuncData} {n1 : Str} (h : ∀ (S : Setting) (x : Value), peek (K2 P) S (bindArgs fd ⟨[x], []⟩) = some [(n1, x)]) (s : Shared) (xs : List Value) (X : (K2 P).In s.heap) (hl : xs.length = 1) : BindsTo s fd ⟨xs, []⟩ ([n1].zip xs) := by
  obtain ⟨x, rfl⟩ := List.length_eq_one_iff.mp hl
  exact kp_binds X fun S => h S x
theorem b2 {fd : FuncData} {n1 n2 : Str} (h : ∀ (S : Setting) (x y : Value), peek (K2 P) S (bindArgs fd ⟨[x, y], []⟩) = some [(n1, x), (n2, y)]) (s : Shared) (xs : List Value) (X : (K2 P).In s.heap) (hl : xs.length = 2) : BindsTo s fd ⟨xs, []⟩ ([n1, n2].zip xs) := by
  obtain ⟨x, xs, rfl⟩ := List.exists_cons_of_length_eq_add_one hl
  replace hl := Nat.succ.inj hl
  obtain ⟨y, rfl⟩ := List.length_eq_one_iff.mp hl
  exact kp_binds X fun S => h S x y
theorem b3 {fd : FuncData} {n1 n2 n3 : Str} (h : ∀ (S : Setting) (x y z : Value), peek (K2 P) S (bindArgs fd ⟨[x, y, z], []⟩) = some [(n1, x), (n2, y), (n3, z)]) (s : Shared) (xs : List Value) (X : (K2 P).In s.heap) (hl : xs.length = 3) : BindsTo s fd ⟨xs, []⟩ ([n1, n2, n3].zip xs) := by
  obtain ⟨x, xs, rfl⟩ := List.exists_cons_of_length_eq_add_one hl
  replace hl := Nat.succ.inj hl
  obtain ⟨y, xs, rfl⟩ := List.exists_cons_of_length_eq_add_one hl
  replace hl := Nat.succ.inj hl
  obtain ⟨z, rfl⟩ := List.length_eq_one_iff.mp hl
  exact kp_binds X fun S => h S x y z
theorem b4 {fd : FuncData} {n1 n2 n3 n4 : Str} (h : ∀ (S : Setting) (x y z u : Value), peek (K2 P) S (bindArgs fd ⟨[x, y, z, u], []⟩) = some [(n1, x), (n2, y), (n3, z), (n4, u)]) (s : Shared) (xs : List Value) (X : (K2 P).In s.heap) (hl : xs.length = 4) : BindsTo s fd ⟨xs, []⟩ ([n1, n2, n3, n4].zip xs) := by
  obtain ⟨x, xs, rfl⟩ := List.exists_cons_of_length_eq_add_one hl
  replace hl := Nat.succ.inj hl
  obtain ⟨y, xs, rfl⟩ := List.exists_cons_of_length_eq_add_one hl
  replace hl := Nat.succ.inj hl
  obtain ⟨z, xs, rfl⟩ := List.exists_cons_of_length_eq_add_one hl
  replace hl := Nat.succ.inj hl
  obtain ⟨u, rfl⟩ := List.length_eq_one_iff.mp hl
  exact kp_binds X fun S => h S x y z u
theorem factsL2 : FactsL (topS (K2 P) a is) ad2 := by
  constructor
  case toFacts => exact facts2
  all_goals first
    | exact ⟨_, _, ⟨rfl, rfl, rfl, rfl, rfl, rfl, rfl, by kernel_rfl, rfl, rfl, rfl, by decide +kernel, by decide +kernel⟩, rfl, rfl⟩
    | exact ⟨_, _, ⟨rfl, rfl, rfl, rfl, rfl, rfl, rfl, by kernel_rfl, rfl, rfl, rfl, by decide +kernel, by decide +kernel⟩, b2 fun _ _ _ => rfl⟩
    | exact ⟨_, _, ⟨rfl, rfl, rfl, rfl, rfl, rfl, rfl, by kernel_rfl, rfl, rfl, rfl, by decide +kernel, by decide +kernel⟩, b1 fun _ _ => rfl⟩
    | exact ⟨_, _, ⟨rfl, rfl, rfl, rfl, rfl, rfl, rfl, by kernel_rfl, rfl, rfl, rfl, by decide +kernel, by decide +kernel⟩, b3 fun _ _ _ _ => rfl⟩
    | exact ⟨_, _, ⟨rfl, rfl, rfl, rfl, rfl, rfl, rfl, by kernel_rfl, rfl, rfl, rfl, by decide +kernel, by decide +kernel⟩, b4 fun _ _ _ _ _ => rfl⟩
    | exact rfl
    | kernel_rfl
theorem fnLaw2 : FnB (topS (K2 P) a is) 229 (fnAt PySem.Challenge.pw_nq0219_02 23) ["script"] :=
  ⟨_, _, ⟨rfl, rfl, rfl, rfl, rfl, rfl, rfl, by kernel_rfl, rfl, rfl, rfl, by decide +kernel, by decide +kernel⟩, b1 fun _ _ => rfl⟩
end
/-- what is left of the claim: the law's transformer -/
def Pure02 : Prop := ∀ (sa : Addr) (si : List Int), B_law ad2 sa si (fun f _ => f = .ret (.bool true)) noE ⟨bindLoc [("script", .raw (.ref sa))] fun _ => none, fun _ => none⟩
theorem run2 {w : World} {prog : Program} {s : Shared} {p : Program} {loose : List Str} {mean : ExcName → Option Value} {mg mb : Str → Option Value} {sa : Addr} {si : List Int} {items : List Value} (hp : Pure02) (X : (K2 w.params).In s.heap) (T : Top p loose mean mg mb s.heap) (hs : importsNone p = true) (hL : s.heap.IsList sa items.toArray) (hI : IntsAre items si) (hz : items.length ≤ sizeLine) :
    codeAny (model prog w) callerA (.call (.ref 229) ⟨[.ref sa], []⟩) (fun r s' => r = .ok (.ret (.bool true)) ∧ (∀ b o, s.heap.get? b = some o → s'.heap.get? b = some o) ∧ s'.os = s.os ∧ s'.gens = s.gens) s := by
  obtain ⟨o, fd, H, h1⟩ := fnLaw2 (P := w.params) (a := sa) (is := si)
  exact top_go H h1 (by kernel_rfl) (topF_of X T hs hL hI hz) (fun A L q cd hh => Q_law (n := 1) factsL2 hh rfl) (hp sa si)
theorem hold2 (hp : Pure02) : PySem.Challenge.rw_nq0219_02.Holds := hd2 (by
  intro w s₀ s₁ mg mb G Y fa o pm cd doc dV kV ho hd hcd hD hmg hg args vals as hpre hlay hrd hwl hlo
  have KX : (K2 w.params).In _ := Y
  refine Ground.open G ?_
  intro T B D TE TW
  clear D TE TW hd hcd hD G Y
  wrow_args hpre hlay hrd hwl hlo
  all_goals (
    have hfa : (Value.ref fa) = .ref 229 := by
      have := mg_of KX T.g (n := Str.ofString "law") (v := .ref 229) (by kernel_rfl)
      have h9 := hmg.symm.trans this
      exact Option.some.inj h9
    rw [hfa]
    refine enter_call (codeAny_mono (run2 hp KX T (by kernel_rfl) (by assumption) (by assumption) ?_) fun r s' z => ?_)
    · have h1 := IntsAre.length (by assumption)
      have : 63 ≤ sizeLine := by decide
      omega
    · obtain ⟨rfl, z1, z2, z3⟩ := z
      refine GoodW.toG ⟨.inl ⟨.bool true, ofPy (PyData.bool true), [], rfl, ?_, ?_, ?_, fun _ => ⟨List.nodup_nil, fun _ h => (nomatch h)⟩⟩, z1, z2, z3.trans hg⟩
      · intro cls; first | rfl | kernel_rfl
      · first | exact .py .bool | exact .bool | constructor
      · first | rfl | kernel_rfl))
end Mine
end
noncomputable section
open PySem
set_option linter.unusedVariables false
set_option linter.unusedSimpArgs false
namespace Mine
/-- heaps -/
abbrev LH := Nat → Option LO
def upd (τ : LH) (a : Nat) (o : LO) : LH := fun b => if b = a then some o else τ b
abbrev Ext (τ τ' : LH) : Prop := ∀ b o, τ b = some o → τ' b = some o
theorem Ext.rfl' {τ : LH} : Ext τ τ := fun _ _ h => h
theorem Ext.tr {a b c : LH} (h : Ext a b) (k : Ext b c) : Ext a c := fun x o e => k x o (h x o e)
theorem upd_same {τ : LH} {a : Nat} {o : LO} : upd τ a o a = some o := by simp [upd]
theorem upd_ne {τ : LH} {a b : Nat} {o : LO} {v : Option LO} (h : b ≠ a) (k : τ b = v) : upd τ a o b = v := by simp [upd, h, k]
theorem ne_sn {τ : LH} {a b : Nat} {o : LO} (h : τ a = some o) (k : τ b = none) : a ≠ b := fun z => by rw [z, k] at h; cases h
theorem Ext.new {τ : LH} {a : Nat} {o : LO} (h : τ a = none) : Ext τ (upd τ a o) := fun b o' e => upd_ne (ne_sn e h) e
theorem Ext.upd {K τ : LH} {a : Nat} {o : LO} (h : Ext K τ) (k : K a = none) : Ext K (upd τ a o) := fun b o' e => upd_ne (ne_sn e k) (h b o' e)
theorem Ext.none {K τ : LH} {a : Nat} (h : Ext K τ) (k : τ a = none) : K a = none := by
  cases e : K a with
  | none => rfl
  | some o => rw [h a o e] at k; cases k
theorem upd_new {τ : LH} {a b : Nat} {o : LO} {v : LO} (h : τ a = none) (k : τ b = some v) : upd τ a o b = some v := upd_ne (ne_sn k h) k
theorem upd_upd {τ : LH} {a : Nat} {o o' : LO} : upd (upd τ a o) a o' = upd τ a o' := by
  funext b; unfold upd; by_cases z : b = a <;> simp [z]
theorem upd_comm {τ : LH} {a b : Nat} {o o' : LO} (h : a ≠ b) : upd (upd τ a o) b o' = upd (upd τ b o') a o := by
  funext x; unfold upd; by_cases z : x = a
  · subst z; simp [h]
  · by_cases y : x = b
    · subst y; simp [z]
    · simp [z, y]

theorem while_go {test : PTx Bool} {body orelse : PTx LF} {Q : LF → LS → Prop} {E : LX → LS → Prop} {σ : LS} (I : Nat → LS → Prop) (n : Nat) (h0 : I n σ)
    (h : ∀ (P : LS → Prop) n σ, I n σ → (∀ m σ', m < n → I m σ' → P σ') →
      test (fun b σ' => if b = true then body (fun f σ'' => match f with | .next => P σ'' | .cont => P σ'' | .brk => Q .next σ'' | .ret v => Q (.ret v) σ'') E σ' else orelse Q E σ') E σ) :
    pwhile test body orelse Q E σ := by
  intro P step
  induction n using Nat.strongRecOn generalizing σ with
  | ind n ih => exact step σ (h P n σ h0 fun m σ' hm hI => ih m hm hI)

theorem for_go {α : Type} {f : α → LV} {g : LS → Prop} {bind : LV → PTx Unit} {body orelse : PTx LF} {Q : LF → LS → Prop} {E : LX → LS → Prop} {σ : LS} (I : List α → List α → LS → Prop) (xs : List α) (h0 : I [] xs σ)
    (hs : ∀ (P : LS → Prop) pre x rest σ, xs = pre ++ x :: rest → I pre (x :: rest) σ → (∀ σ', I (pre ++ [x]) rest σ' → P σ') →
      g σ ∧ bind (f x) (fun _ σ' => body (fun f σ'' => match f with | .next => P σ'' | .cont => P σ'' | .brk => Q .next σ'' | .ret v => Q (.ret v) σ'') E σ') E σ)
    (hn : ∀ σ, I xs [] σ → g σ ∧ orelse Q E σ) : pforL g bind body orelse (xs.map f) Q E σ := by
  suffices H : ∀ rest pre σ, xs = pre ++ rest → I pre rest σ → pforL g bind body orelse (rest.map f) Q E σ from H xs [] σ rfl h0
  intro rest
  induction rest with
  | nil => intro pre σ e h; simp at e; subst e; exact hn σ h
  | cons x rest ih =>
    intro pre σ e h
    exact hs (pforL g bind body orelse (rest.map f) Q E) pre x rest σ e h fun σ' h' => ih (pre ++ [x]) σ' (by simp [e]) h'

theorem compL_go {α : Type} {f : α → LV} {g : LS → Prop} {bind : LV → PTx Unit} {body : PTx Unit} {Q : Unit → LS → Prop} {E : LX → LS → Prop} {σ : LS} (I : List α → List α → LS → Prop) (xs : List α) (h0 : I [] xs σ)
    (hs : ∀ (P : LS → Prop) pre x rest σ, xs = pre ++ x :: rest → I pre (x :: rest) σ → (∀ σ', I (pre ++ [x]) rest σ' → P σ') → g σ ∧ bind (f x) (fun _ σ' => body (fun _ σ'' => P σ'') E σ') E σ)
    (hn : ∀ σ, I xs [] σ → g σ ∧ Q () σ) : pcompL g bind body (xs.map f) Q E σ := by
  suffices H : ∀ rest pre σ, xs = pre ++ rest → I pre rest σ → pcompL g bind body (rest.map f) Q E σ from H xs [] σ rfl h0
  intro rest
  induction rest with
  | nil => intro pre σ e h; simp at e; subst e; exact hn σ h
  | cons x rest ih =>
    intro pre σ e h
    exact hs (pcompL g bind body (rest.map f) Q E) pre x rest σ e h fun σ' h' => ih (pre ++ [x]) σ' (by simp [e]) h'

/-- locals that agree but for a comprehension's own names -/
abbrev Agree (own : List String) (ℓ ℓ' : String → Option LV) : Prop := ∀ y, own.contains y = false → ℓ' y = ℓ y

/-- a comprehension whose test and item change nothing -/
theorem comp_go {α : Type} {f : α → LV} {xs : List α} {g : LS → Prop} {bind : LV → PTx Unit} {t : PTx Bool} {m : PTx LV} {own : List String} {Q : Unit → LS → Prop} {E : LX → LS → Prop} {ℓ : String → Option LV} {τ : LH} {D : Nat} (c : α → Bool) (e : α → LV)
    (hl : xs.length ≤ cap) (hg : ∀ ℓ' acc, g ⟨ℓ', upd τ D (.list acc)⟩)
    (hb : ∀ x ∈ xs, ∀ acc ℓ', Agree own ℓ ℓ' → ∃ ℓ'', Agree own ℓ ℓ'' ∧ (∀ K : Unit → LS → Prop, K () ⟨ℓ'', upd τ D (.list acc)⟩ → bind (f x) K noE ⟨ℓ', upd τ D (.list acc)⟩) ∧
      (∀ K : Bool → LS → Prop, K (c x) ⟨ℓ'', upd τ D (.list acc)⟩ → t K noE ⟨ℓ'', upd τ D (.list acc)⟩) ∧ (c x = true → ∀ K : LV → LS → Prop, K (e x) ⟨ℓ'', upd τ D (.list acc)⟩ → m K noE ⟨ℓ'', upd τ D (.list acc)⟩))
    (hQ : Q () ⟨ℓ, upd τ D (.list ((xs.filter c).map e))⟩) : pown own (pcompL g bind (pwhen t (pemit m (.ref D))) (xs.map f)) Q E ⟨ℓ, upd τ D (.list [])⟩ := by
  refine compL_go (fun pre _ σ => Agree own ℓ σ.loc ∧ σ.heap = upd τ D (.list ((pre.filter c).map e))) xs ⟨fun y hy => ?_, rfl⟩ ?_ ?_
  · show (if own.contains y = true then none else ℓ y) = ℓ y
    rw [hy]; rfl
  · intro P pre x rest σ he ⟨h1, h2⟩ hP
    obtain ⟨ℓ', τ'⟩ := σ
    simp only at h1 h2
    subst h2
    refine ⟨hg _ _, ?_⟩
    obtain ⟨ℓ'', a1, a2, a3, a4⟩ := hb x (by rw [he]; simp) ((pre.filter c).map e) ℓ' h1
    refine a2 _ (a3 _ ?_)
    cases hc : c x with
    | false =>
      refine hP _ ⟨a1, ?_⟩
      simp [List.filter_append, hc]
    | true =>
      refine a4 hc _ ?_
      show plappend (.ref D) [e x] _ _ _
      rw [plappend]
      refine ⟨_, upd_same, ?_, ?_⟩
      · have h1 := List.length_filter_le c pre
        have h2 : xs.length = pre.length + (rest.length + 1) := by rw [he]; simp
        simp only [List.length_map]; omega
      · refine hP _ ⟨a1, ?_⟩
        show upd (upd τ D _) D _ = _
        rw [upd_upd]
        simp [List.filter_append, hc]
  · intro σ ⟨h1, h2⟩
    obtain ⟨ℓ', τ'⟩ := σ
    simp only at h1 h2
    subst h2
    exact ⟨hg _ _, hQ⟩

section
variable {Q : LV → LS → Prop} {QB : Bool → LS → Prop} {QU : Unit → LS → Prop} {QI : LIt → LS → Prop} {QL : List LV → LS → Prop} {E : LX → LS → Prop} {σ : LS} {a b : Nat} {i j k l : Int} {xs ys vs : List LV} {v : LV} {es : List (Int × LV)} {ep : Nat} {is js : List Int}
theorem get_go {x : String} (h : σ.loc x = some v) (q : Q v σ) : pget x Q noE σ := ⟨v, h, q⟩
theorem lget_go (h : σ.heap a = some (.list xs)) (h0 : 0 ≤ k) (h1 : xs[k.toNat]? = some v) (q : Q v σ) : plget (.ref a) (.int k) Q E σ := ⟨xs, v, h, h0, h1, q⟩
theorem llast_go (h : σ.heap a = some (.list xs)) (h1 : xs.getLast? = some v) (q : Q v σ) : pllast (.ref a) (.int (-1)) Q E σ := ⟨rfl, xs, v, h, h1, q⟩
theorem tget_go (h0 : 0 ≤ k) (h : vs.length ≤ 1000) (h1 : vs[k.toNat]? = some v) (q : Q v σ) : ptget (.tup vs) (.int k) Q E σ := ⟨v, h0, h, h1, q⟩
theorem dget_go (h : σ.heap a = some (.dict es ep)) (h1 : es.lookup k = some v) (q : Q v σ) : pdget (.ref a) (.int k) Q E σ := ⟨es, ep, v, h, h1, q⟩
theorem dset_go (h : σ.heap a = some (.dict es ep)) (h1 : es.length + 1 ≤ cap) (q : ∀ ep', QU () ⟨σ.loc, upd σ.heap a (.dict (dput es k v) ep')⟩) : pdset (.ref a) (.int k) v QU E σ := ⟨es, ep, h, h1, q⟩
theorem ddel_go (h : σ.heap a = some (.dict es ep)) (h1 : (es.lookup k).isSome = true) (q : ∀ ep', QU () ⟨σ.loc, upd σ.heap a (.dict (ddel es k) ep')⟩) : pddel (.ref a) (.int k) QU E σ := ⟨es, ep, h, h1, q⟩
theorem lin_go (h : σ.heap a = some (.list (is.map .int))) (q : QB (is.contains k) σ) : plin (.int k) (.ref a) QB E σ := ⟨is, h, q⟩
theorem lnotin_go (h : σ.heap a = some (.list (is.map .int))) (q : QB (!is.contains k) σ) : plnotin (.int k) (.ref a) QB E σ := ⟨is, h, q⟩
theorem din_go (h : σ.heap a = some (.dict es ep)) (q : QB (es.lookup k).isSome σ) : pdin (.int k) (.ref a) QB E σ := ⟨es, ep, h, q⟩
theorem dnotin_go (h : σ.heap a = some (.dict es ep)) (q : QB (!(es.lookup k).isSome) σ) : pdnotin (.int k) (.ref a) QB E σ := ⟨es, ep, h, q⟩
theorem sin_go {S : Int → Bool} {n : Nat} (h : σ.heap a = some (.set S n)) (q : QB (S k) σ) : psin (.int k) (.ref a) QB E σ := ⟨S, n, h, q⟩
theorem list_go (h : vs.length ≤ cap) (q : ∀ d, σ.heap d = none → Q (.ref d) ⟨σ.loc, upd σ.heap d (.list vs)⟩) : plist vs Q E σ := ⟨h, q⟩
theorem tuple_go (h : vs.length ≤ cap) (q : Q (.tup vs) σ) : ptuple vs Q E σ := ⟨h, q⟩
theorem dict0_go (q : ∀ d, σ.heap d = none → Q (.ref d) ⟨σ.loc, upd σ.heap d (.dict [] 0)⟩) : pdict0 Q E σ := q
theorem leq0_go (h : σ.heap a = some (.list xs)) (h' : σ.heap b = some (.list [])) (q : QB xs.isEmpty σ) : pleq0 (.ref a) (.ref b) QB E σ := ⟨xs, h, h', q⟩
theorem from_go (h : σ.heap a = some (.list xs)) (h0 : 0 ≤ k) (q : ∀ d, σ.heap d = none → Q (.ref d) ⟨σ.loc, upd σ.heap d (.list (xs.drop k.toNat))⟩) : pfrom (.ref a) (.int k) Q E σ := ⟨xs, h, h0, q⟩
theorem upto_go (h : σ.heap a = some (.list xs)) (h0 : 0 ≤ k) (q : ∀ d, σ.heap d = none → Q (.ref d) ⟨σ.loc, upd σ.heap d (.list (xs.take k.toNat))⟩) : pupto (.ref a) (.int k) Q E σ := ⟨xs, h, h0, q⟩
theorem cat_go (h : σ.heap a = some (.list xs)) (h' : σ.heap b = some (.list ys)) (hl : xs.length + ys.length ≤ cap) (q : ∀ d, σ.heap d = none → Q (.ref d) ⟨σ.loc, upd σ.heap d (.list (xs ++ ys))⟩) : pcat (.ref a) (.ref b) Q E σ := ⟨xs, ys, h, h', hl, q⟩
theorem islist_go (h : σ.heap a = some (.list xs)) (q : QU () σ) : pislist (.ref a) QU E σ := ⟨⟨xs, h⟩, q⟩
theorem isdict_go (h : σ.heap a = some (.dict es ep)) (q : QU () σ) : pisdict (.ref a) QU E σ := ⟨⟨es, ep, h⟩, q⟩
theorem isset_go {S : Int → Bool} {n : Nat} (h : σ.heap a = some (.set S n)) (q : QU () σ) : pisset (.ref a) QU E σ := ⟨⟨S, n, h⟩, q⟩
theorem lappend_go (h : σ.heap a = some (.list xs)) (h1 : xs.length + 1 ≤ cap) (q : Q .none ⟨σ.loc, upd σ.heap a (.list (xs ++ [v]))⟩) : plappend (.ref a) [v] Q E σ := ⟨xs, h, h1, q⟩
theorem lpop_go (h : σ.heap a = some (.list xs)) (h1 : xs.getLast? = some v) (q : Q v ⟨σ.loc, upd σ.heap a (.list xs.dropLast)⟩) : plpop (.ref a) [] Q E σ := ⟨xs, v, h, h1, q⟩
theorem lclear_go (h : σ.heap a = some (.list xs)) (q : Q .none ⟨σ.loc, upd σ.heap a (.list [])⟩) : plclear (.ref a) [] Q E σ := ⟨xs, h, q⟩
theorem lextend_go (h : σ.heap a = some (.list xs)) (h' : σ.heap b = some (.list ys)) (hl : xs.length + ys.length ≤ cap) (q : Q .none ⟨σ.loc, upd σ.heap a (.list (xs ++ ys))⟩) : plextend (.ref a) [.ref b] Q E σ := ⟨xs, ys, h, h', hl, q⟩
theorem dget1_go (h : σ.heap a = some (.dict es ep)) (q : Q ((es.lookup k).getD .none) σ) : pdget1 (.ref a) [.int k] Q E σ := ⟨es, ep, h, q⟩
theorem dget2_go {d : LV} (h : σ.heap a = some (.dict es ep)) (q : Q ((es.lookup k).getD d) σ) : pdget2 (.ref a) [.int k, d] Q E σ := ⟨es, ep, h, q⟩
theorem sadd_go {S : Int → Bool} {n : Nat} (h : σ.heap a = some (.set S n)) (hn : n < 1000) (q : Q .none ⟨σ.loc, upd σ.heap a (.set (fun k' => S k' || decide (k' = k)) (if S k then n else n + 1))⟩) : psadd (.ref a) [.int k] Q E σ := ⟨S, n, h, hn, q⟩
theorem len_go (h : σ.heap a = some (.list xs)) (q : Q (.int xs.length) σ) : plen [.ref a] Q E σ := ⟨xs, h, q⟩
theorem lenT_go (h : vs.length ≤ cap) (q : Q (.int vs.length) σ) : plen [.tup vs] Q E σ := ⟨h, q⟩
theorem sum_go (h : σ.heap a = some (.list (is.map .int))) (q : Q (.int is.sum) σ) : psum [.ref a] Q E σ := ⟨is, h, q⟩
theorem sorted_go (h : σ.heap a = some (.list (is.map .int))) (hl : is.length < 64) (q : ∀ js : List Int, js.Perm is → js.Pairwise (· ≤ ·) → ∀ d, σ.heap d = none → Q (.ref d) ⟨σ.loc, upd σ.heap d (.list (js.map .int))⟩) : psorted [.ref a] Q E σ := ⟨is, h, hl, q⟩
theorem listof_go (h : σ.heap a = some (.list xs)) (q : ∀ d, σ.heap d = none → Q (.ref d) ⟨σ.loc, upd σ.heap d (.list xs)⟩) : plistof [.ref a] Q E σ := ⟨xs, h, q⟩
theorem tupof_go (h : σ.heap a = some (.list xs)) (q : Q (.tup xs) σ) : ptupof [.ref a] Q E σ := ⟨xs, h, q⟩
theorem set0_go (q : ∀ d, σ.heap d = none → Q (.ref d) ⟨σ.loc, upd σ.heap d (.set (fun _ => false) 0)⟩) : pset0 [] Q E σ := q
theorem iter_go (h : σ.heap a = some (.list xs)) (q : ∀ d, σ.heap d = none → Q (.ref d) ⟨σ.loc, upd σ.heap d (.iter a 0)⟩) : piter [.ref a] Q E σ := ⟨xs, h, q⟩
theorem nextof_go {l i : Nat} (h : σ.heap a = some (.iter l i)) (q : Q (.nxt a) σ) : pnextof (.ref a) Q E σ := ⟨l, i, h, q⟩
theorem bool_go (h : σ.heap a = some (.list xs)) (q : Q (.bool (!xs.isEmpty)) σ) : pbool [.ref a] Q E σ := ⟨xs, h, q⟩
theorem truth_go (h : σ.heap a = some (.list xs)) (q : QB (!xs.isEmpty) σ) : ptruth (.ref a) QB E σ := ⟨xs, h, q⟩
theorem items_go (h : σ.heap a = some (.list xs)) (q : QI (xs, fun σ => σ.heap a = some (.list xs)) σ) : pitems (.ref a) QI E σ := ⟨xs, h, q⟩
theorem titems_go (h : vs.length ≤ cap) (q : QI (vs, fun _ => True) σ) : ptitems (.tup vs) QI E σ := ⟨h, q⟩
theorem keys_go (h : σ.heap a = some (.dict es ep)) (q : QI (es.map (fun kv => LV.int kv.1), fun σ => σ.heap a = some (.dict es ep)) σ) : pkeys (.ref a) QI E σ := ⟨es, ep, h, q⟩
theorem vals_go (h : σ.heap a = some (.dict es ep)) (q : QI (es.map (fun kv => kv.2), fun σ => σ.heap a = some (.dict es ep)) σ) : pvals (.ref a) QI E σ := ⟨es, ep, h, q⟩
theorem ents_go (h : σ.heap a = some (.dict es ep)) (q : QI (es.map (fun kv => LV.tup [.int kv.1, kv.2]), fun σ => σ.heap a = some (.dict es ep)) σ) : pents (.ref a) QI E σ := ⟨es, ep, h, q⟩
theorem enum_go (h : σ.heap a = some (.list xs)) (q : QI (xs.zipIdx.map (fun vi => LV.tup [.int vi.2, vi.1]), fun σ => σ.heap a = some (.list xs)) σ) : penum (.ref a) QI E σ := ⟨xs, h, q⟩
theorem rev_go (h : σ.heap a = some (.list xs)) (q : QI (xs.reverse, fun σ => σ.heap a = some (.list xs)) σ) : prev (.ref a) QI E σ := ⟨xs, h, q⟩
theorem starT_go (h : vs.length ≤ cap) (q : QL vs σ) : pstar (.tup vs) QL E σ := ⟨h, q⟩
theorem star_go (h : σ.heap a = some (.list xs)) (q : QL xs σ) : pstar (.ref a) QL E σ := ⟨xs, h, q⟩
theorem getD_go {C d : Nat} {x : String} {fs : List (Option LV)} {es : List (String × LV)} (h : σ.heap a = some (.inst C d fs)) (h' : σ.heap d = some (.attrs es)) (hx : es.lookup x = some v) (hp : plain v = true) (q : Q v σ) : pgetD C x (.ref a) Q E σ := ⟨d, fs, es, v, h, h', hx, hp, q⟩
theorem setD_go {C d : Nat} {x : String} {fs : List (Option LV)} {es : List (String × LV)} (h : σ.heap a = some (.inst C d fs)) (h' : σ.heap d = some (.attrs es)) (hl : es.length < 900) (q : QU () ⟨σ.loc, upd σ.heap d (.attrs (fput es x v))⟩) : psetD C x (.ref a) v QU E σ := ⟨d, fs, es, h, h', hl, q⟩
theorem getS_go {C d i : Nat} {fs : List (Option LV)} {es : List (String × LV)} (h : σ.heap a = some (.inst C d fs)) (h' : σ.heap d = some (.attrs es)) (hx : fs[i]? = some (some v)) (hp : plain v = true) (q : Q v σ) : pgetS C i (.ref a) Q E σ := ⟨d, fs, es, v, h, h', hx, hp, q⟩
theorem setS_go {C d i : Nat} {fs : List (Option LV)} {es : List (String × LV)} (h : σ.heap a = some (.inst C d fs)) (h' : σ.heap d = some (.attrs es)) (q : QU () ⟨σ.loc, upd σ.heap a (.inst C d (sput fs i v))⟩) : psetS C i (.ref a) v QU E σ := ⟨d, fs, es, h, h', q⟩
theorem isinst_go {C d : Nat} {x : String} {fs : List (Option LV)} {es : List (String × LV)} (h : σ.heap a = some (.inst C d fs)) (h' : σ.heap d = some (.attrs es)) (hx : es.lookup x = none) (q : QU () σ) : pisinst C x (.ref a) QU E σ := ⟨d, fs, es, h, h', hx, q⟩
theorem nextc_go {l i : Nat} (h : σ.heap a = some (.iter l i)) (h' : σ.heap l = some (.list xs)) (q : match xs[i]? with | some v => Q v (σ.put a (.iter l (i + 1))) | none => E ⟨"StopIteration", false⟩ (σ.del a)) : pnextc (.nxt a) Q E σ := ⟨l, i, xs, h, h', q⟩
theorem item_go (h : σ.heap a = some (.list xs)) (h0 : 0 ≤ k) (h1 : k < 2 ^ 60) (q : match xs[k.toNat]? with | some v => Q v σ | none => E ⟨"IndexError", false⟩ σ) : plitem (.ref a) (.int k) Q E σ := ⟨xs, h, h0, h1, q⟩
theorem if_true' {p q : Prop} {b : Bool} (h : b = true) (k : p) : (if b = true then p else q) := by rw [if_pos h]; exact k
theorem if_false' {p q : Prop} {b : Bool} (h : b = false) (k : q) : (if b = true then p else q) := by rw [if_neg (by simp [h])]; exact k
theorem tup2_go {x y : String} {u w : LV} (q : QU () ((σ.set x u).set y w)) : ptupT [pset x, pset y] (.tup [u, w]) QU E σ := ⟨⟨_, rfl, rfl⟩, q⟩
theorem tup4_go {x y z t : String} {u w u' w' : LV} (q : QU () ((((σ.set x u).set y w).set z u').set t w')) : ptupT [pset x, pset y, pset z, pset t] (.tup [u, w, u', w']) QU E σ := ⟨⟨_, rfl, rfl⟩, q⟩
theorem truthB_go {z : Bool} (q : QB z σ) : ptruth (.bool z) QB E σ := q
theorem truthN_go (q : QB false σ) : ptruth .none QB E σ := q
theorem lt_go (q : QB (decide (i < j)) σ) : plt (.int i) (.int j) QB E σ := q
theorem ltT_go (q : QB (decide (i < k ∨ (i = k ∧ j < l))) σ) : plt (.tup [.int i, .int j]) (.tup [.int k, .int l]) QB E σ := ⟨i, j, k, l, rfl, rfl, q⟩
theorem gt_go (q : QB (decide (j < i)) σ) : pgt (.int i) (.int j) QB E σ := q
theorem eq_go (q : QB (i == j) σ) : peq (.int i) (.int j) QB E σ := q
theorem ne_go (q : QB (i != j) σ) : pne (.int i) (.int j) QB E σ := q
theorem isNoneN_go (q : QB true σ) : pisNone .none .none QB E σ := q
theorem isNoneR_go (q : QB false σ) : pisNone (.ref a) .none QB E σ := q
theorem isNotNoneN_go (q : QB false σ) : pisNotNone .none .none QB E σ := q
theorem isNotNoneR_go (q : QB true σ) : pisNotNone (.ref a) .none QB E σ := q
theorem add_go (q : Q (.int (i + j)) σ) : padd (.int i) (.int j) Q E σ := q
theorem sub_go (q : Q (.int (i - j)) σ) : psub (.int i) (.int j) Q E σ := q
theorem neg_go (q : Q (.int (-i)) σ) : pneg (.int i) Q E σ := q
theorem mul_go (h : j.natAbs < 2 ^ 60) (q : Q (.int (i * j)) σ) : pmul (.int i) (.int j) Q E σ := ⟨h, q⟩
theorem div_go (h : j ≠ 0 ∧ j.natAbs < 2 ^ 20) (q : Q (.int (i.fdiv j)) σ) : pdiv (.int i) (.int j) Q E σ := ⟨h, q⟩
theorem mod_go (h : j ≠ 0) (q : Q (.int (i.fmod j)) σ) : pmod (.int i) (.int j) Q E σ := ⟨h, q⟩
theorem pow_go (h : 0 ≤ j ∧ j ≤ 1000 ∧ i.natAbs ≤ 16) (q : Q (.int (i ^ j.toNat)) σ) : ppow (.int i) (.int j) Q E σ := ⟨h, q⟩
theorem or_go (q : Q (.int (Builtin.bitOr i j)) σ) : por (.int i) (.int j) Q E σ := q
theorem intof_go (q : Q (.int i) σ) : pintof [.int i] Q E σ := q
theorem range1_go (q : Q (.rng 0 i 1) σ) : prange1 [.int i] Q E σ := q
theorem if_both {p q : Prop} {b : Bool} (h : b = true → p) (k : b = false → q) : (if b = true then p else q) := by
  cases b
  · rw [if_neg (by decide)]; exact k rfl
  · rw [if_pos rfl]; exact h rfl
end
end Mine
end
noncomputable section
open PySem
set_option linter.unusedVariables false
set_option linter.unusedSimpArgs false
namespace Mine
abbrev Pr := Int × Int
def ple (a b : Pr) : Prop := a.1 < b.1 ∨ (a.1 = b.1 ∧ a.2 ≤ b.2)
def plt' (a b : Pr) : Prop := a.1 < b.1 ∨ (a.1 = b.1 ∧ a.2 < b.2)
theorem ple_refl (a : Pr) : ple a a := .inr ⟨rfl, Int.le_refl _⟩
theorem ple_trans {a b c : Pr} (h : ple a b) (k : ple b c) : ple a c := by
  rcases h with h | ⟨h, h'⟩
  · rcases k with k | ⟨k, _⟩
    · exact .inl (Int.lt_trans h k)
    · exact .inl (k ▸ h)
  · rcases k with k | ⟨k, k'⟩
    · exact .inl (h ▸ k)
    · exact .inr ⟨h.trans k, Int.le_trans h' k'⟩
theorem par_lt {p : Nat} (h : 0 < p) : (p - 1) / 2 < p := Nat.lt_of_le_of_lt (Nat.div_le_self _ _) (Nat.sub_lt h Nat.one_pos)
theorem ple_of_not_lt {a b : Pr} (h : ¬ plt' a b) : ple b a := by
  rcases Int.lt_trichotomy a.1 b.1 with h1 | h1 | h1
  · exact absurd (.inl h1) h
  · exact .inr ⟨h1.symm, Int.not_lt.mp fun z => h (.inr ⟨h1, z⟩)⟩
  · exact .inl h1
theorem ple_of_lt {a b : Pr} (h : plt' a b) : ple a b := Or.imp id (fun z => ⟨z.1, Int.le_of_lt z.2⟩) h
def tp (p : Pr) : LV := .tup [.int p.1, .int p.2]
def G (ps : List Pr) (i : Nat) : Pr := ps[i]?.getD (0, 0)
def HeapFrom (s : Nat) (ps : List Pr) : Prop := ∀ i, 0 < i → i < ps.length → s ≤ (i - 1) / 2 → ple (G ps ((i - 1) / 2)) (G ps i)
inductive Desc (st : Nat) : Nat → Prop
  | refl : Desc st st
  | left {p : Nat} : Desc st p → Desc st (2 * p + 1)
  | right {p : Nat} : Desc st p → Desc st (2 * p + 2)
theorem par1 (p : Nat) : (2 * p + 1 - 1) / 2 = p := by rw [Nat.add_sub_cancel]; exact Nat.mul_div_cancel_left p Nat.two_pos
theorem par2 (p : Nat) : (2 * p + 2 - 1) / 2 = p := Nat.mul_add_div Nat.two_pos p 1
theorem child_lt (p : Nat) : p < 2 * p + 1 := Nat.lt_succ_of_le (Nat.le_mul_of_pos_left p Nat.two_pos)
theorem child_ge {i : Nat} (h0 : 0 < i) : 2 * ((i - 1) / 2) + 1 ≤ i := Nat.le_trans (Nat.succ_le_succ (Nat.mul_div_le (i - 1) 2)) (Nat.le_of_eq (Nat.sub_add_cancel h0))
theorem Desc.le {st p : Nat} (h : Desc st p) : st ≤ p := by
  induction h with
  | refl => exact Nat.le_refl _
  | left _ ih => exact Nat.le_trans ih (Nat.le_of_lt (child_lt _))
  | right _ ih => exact Nat.le_trans ih (Nat.le_succ_of_le (Nat.le_of_lt (child_lt _)))
theorem Desc.up {st p : Nat} (h : Desc st p) (hlt : st < p) : Desc st ((p - 1) / 2) := by
  cases h with
  | refl => exact absurd hlt (Nat.lt_irrefl _)
  | @left q h => rw [par1]; exact h
  | @right q h => rw [par2]; exact h
theorem desc0 (p : Nat) : Desc 0 p := by
  induction p using Nat.strongRecOn with
  | ind p ih =>
    rcases Nat.eq_zero_or_pos p with rfl | hp
    · exact .refl
    · have e := Nat.div_add_mod (p - 1) 2
      have h9 := ih ((p - 1) / 2) (par_lt hp)
      rcases Nat.mod_two_eq_zero_or_one (p - 1) with h | h
      · rw [h] at e
        exact ((congrArg (· + 1) e).trans (Nat.sub_add_cancel hp)) ▸ h9.left
      · rw [h] at e
        exact ((congrArg (· + 1) e).trans (Nat.sub_add_cancel hp)) ▸ h9.right
theorem G_set (ps : List Pr) (i j : Nat) (v : Pr) (h : i < ps.length) : G (ps.set i v) j = if j = i then v else G ps j := by
  unfold G
  rw [List.getElem?_set]
  by_cases e : i = j
  · subst e; simp [h]
  · rw [if_neg e, if_neg (Ne.symm e)]
theorem G_get {ps : List Pr} {i : Nat} (h : i < ps.length) : ps[i]? = some (G ps i) := by
  unfold G; rw [List.getElem?_eq_getElem h]; rfl

/-- the places that _siftdown goes up by, on the list with its hole filled -/
structure SD (st pos : Nat) (ps : List Pr) : Prop where
  edge : ∀ i, 0 < i → i < ps.length → st ≤ (i - 1) / 2 → i ≠ pos → ple (G ps ((i - 1) / 2)) (G ps i)
  grand : ∀ i, 0 < i → i < ps.length → (i - 1) / 2 = pos → st < pos → ple (G ps ((pos - 1) / 2)) (G ps i)
theorem SD.stop {st pos : Nat} {ps : List Pr} (h : SD st pos ps) (hp : pos ≤ st ∨ ple (G ps ((pos - 1) / 2)) (G ps pos)) : HeapFrom st ps := fun i h0 hl hs => by
  by_cases e : i = pos
  · subst e
    rcases hp with hp | hp
    · omega
    · exact hp
  · exact h.edge i h0 hl hs e
theorem SD.step {st pos : Nat} {ps : List Pr} (h : SD st pos ps) (hd : Desc st pos) (hlt : st < pos) (hp : pos < ps.length) (hc : plt' (G ps pos) (G ps ((pos - 1) / 2))) :
    SD st ((pos - 1) / 2) ((ps.set pos (G ps ((pos - 1) / 2))).set ((pos - 1) / 2) (G ps pos)) := by
  have p0 : 0 < pos := Nat.lt_of_le_of_lt (Nat.zero_le _) hlt
  have hpp : (pos - 1) / 2 < ps.length := Nat.lt_trans (par_lt p0) hp
  have hdu := (hd.up hlt).le
  have hg : ∀ j, G ((ps.set pos (G ps ((pos - 1) / 2))).set ((pos - 1) / 2) (G ps pos)) j = if j = (pos - 1) / 2 then G ps pos else if j = pos then G ps ((pos - 1) / 2) else G ps j := fun j => by
    rw [G_set _ _ _ _ (by simpa using hpp), G_set _ _ _ _ hp]
  constructor
  · intro i h0 hl hs hne
    simp only [List.length_set] at hl
    rw [hg, hg]
    rw [if_neg hne]
    by_cases e : i = pos
    · subst e
      rw [if_pos rfl, if_pos rfl]
      exact ple_of_lt hc
    · rw [if_neg e]
      by_cases e2 : (i - 1) / 2 = (pos - 1) / 2
      · rw [if_pos e2]
        have := h.edge i h0 hl hs e
        rw [e2] at this
        exact ple_trans (ple_of_lt hc) this
      · rw [if_neg e2]
        by_cases e3 : (i - 1) / 2 = pos
        · rw [if_pos e3]; exact h.grand i h0 hl e3 hlt
        · rw [if_neg e3]; exact h.edge i h0 hl hs e
  · intro i h0 hl hi hlt2
    simp only [List.length_set] at hl
    have hpos0 : 0 < (pos - 1) / 2 := Nat.lt_of_le_of_lt (Nat.zero_le _) hlt2
    rw [hg, hg]
    have h1 : ((pos - 1) / 2 - 1) / 2 ≠ (pos - 1) / 2 := Nat.ne_of_lt (par_lt hpos0)
    have h2 : ((pos - 1) / 2 - 1) / 2 ≠ pos := Nat.ne_of_lt (Nat.lt_trans (par_lt hpos0) (par_lt p0))
    rw [if_neg h1, if_neg h2]
    have hi1 : i ≠ (pos - 1) / 2 := fun z => absurd (hi.trans z.symm) (Nat.ne_of_lt (par_lt h0))
    rw [if_neg hi1]
    have up := h.edge ((pos - 1) / 2) hpos0 hpp ((hd.up hlt).up hlt2).le (Nat.ne_of_lt (par_lt p0))
    by_cases e : i = pos
    · rw [if_pos e]; exact up
    · rw [if_neg e]
      have := h.edge i h0 hl (by rw [hi]; exact hdu) e
      rw [hi] at this
      exact ple_trans up this

theorem C_siftdown {σ : LS} {h : Nat} {ps : List Pr} {st pos : Nat} {Q : LV → LS → Prop} {E : LX → LS → Prop} (hd : Desc st pos) (hp : pos < ps.length) (hh : σ.heap h = some (.list (ps.map tp))) (hi : SD st pos ps)
    (hQ : ∀ ps', ps'.Perm ps → HeapFrom st ps' → Q .none (σ.put h (.list (ps'.map tp)))) : P_siftdown ad2 [.ref h, .int st, .int pos] Q E σ := by
  refine ⟨_, rfl, ?_⟩
  simp only [B_siftdown, pseq, pbind, pget, pset, pret]
  refine ⟨_, rfl, _, rfl, ?_⟩
  rw [plget]
  refine ⟨_, _, hh, by omega, by rw [List.getElem?_map, Int.toNat_natCast, G_get hp]; rfl, ?_⟩
  intro P step
  generalize hnew : G ps pos = new
  suffices H : ∀ pos' (qs : List Pr) (σ' : LS), Desc st pos' → pos' < qs.length → SD st pos' (qs.set pos' new) → (qs.set pos' new).Perm ps → σ'.loc "heap" = some (.ref h) → σ'.loc "startpos" = some (.int st) → σ'.loc "pos" = some (.int pos') → σ'.loc "newitem" = some (tp new) →
      σ'.heap = (fun b => if b = h then some (.list (qs.map tp)) else σ.heap b) → P σ' by
    have e : ps.set pos new = ps := by
      rw [← hnew]
      apply List.ext_getElem?
      intro j
      rw [List.getElem?_set]
      split
      · rename_i e; subst e; rw [G_get hp]
      · rfl
    refine H pos ps _ hd hp (by rw [e]; exact hi) (by rw [e]) ?_ ?_ ?_ ?_ ?_
    · rfl
    · rfl
    · rfl
    · rw [← hnew]; rfl
    · funext b; by_cases z : b = h
      · subst z; rw [if_pos rfl]; exact hh
      · rw [if_neg z]; rfl
  have fin : ∀ pos' (qs : List Pr) (σ' : LS), pos' < qs.length → HeapFrom st (qs.set pos' new) → (qs.set pos' new).Perm ps → σ'.heap = (fun b => if b = h then some (.list (qs.map tp)) else σ.heap b) →
      plset (.ref h) (.int pos') (tp new) (fun _ σ'' => Q LV.none { loc := σ.loc, heap := σ''.heap }) noE σ' := by
    intro pos' qs σ' hl' hhp hpm e5
    rw [plset]
    refine ⟨qs.map tp, by rw [e5]; simp, by omega, by simp; omega, ?_⟩
    have := hQ _ hpm hhp
    rw [show (σ.put h (.list ((qs.set pos' new).map tp))) = { loc := σ.loc, heap := (σ'.put h (.list ((qs.map tp).set (pos' : Int).toNat (tp new)))).heap } from ?_] at this
    · exact this
    · simp only [LS.put, e5, Int.toNat_natCast, List.map_set]
      congr 1
      funext b
      by_cases z : b = h <;> simp [z]
  intro pos'
  induction pos' using Nat.strongRecOn with
  | ind pos' ih =>
    intro qs σ' hd' hl' hsd hpm e1 e2 e3 e4 e5
    refine step σ' ?_
    refine ⟨_, e3, _, e2, ?_⟩
    by_cases hlt : st < pos'
    · show (if decide ((st : Int) < (pos' : Int)) = true then _ else _)
      rw [if_pos (by simpa using hlt)]
      refine ⟨_, e3, ?_⟩
      simp only [psub.eq_1, pshr.eq_1, pbind, pret]
      refine ⟨by omega, ?_⟩
      have epar : ((pos' : Int) - 1).fdiv (2 ^ (1 : Int).toNat) = (((pos' - 1) / 2 : Nat) : Int) := by
        rw [show (2 : Int) ^ (1 : Int).toNat = 2 from rfl, Int.fdiv_eq_ediv_of_nonneg _ (by decide)]
        omega
      rw [epar]
      simp only [pset, pget, LS.set]
      refine ⟨_, e1, _, rfl, ?_⟩
      show plget (.ref h) (.int (((pos' - 1) / 2 : Nat) : Int)) _ _ _
      rw [plget]
      have hpl : (pos' - 1) / 2 < qs.length := by omega
      refine ⟨qs.map tp, _, by simp only [e5]; simp, by omega, by rw [List.getElem?_map, Int.toNat_natCast, G_get hpl]; rfl, ?_⟩
      refine ⟨_, e4, _, rfl, ?_⟩
      refine ltT_go (i := new.1) (j := new.2) (k := (G qs ((pos' - 1) / 2)).1) (l := (G qs ((pos' - 1) / 2)).2) ?_
      show (if decide (new.1 < (G qs ((pos' - 1) / 2)).1 ∨ new.1 = (G qs ((pos' - 1) / 2)).1 ∧ new.2 < (G qs ((pos' - 1) / 2)).2) = true then _ else _)
      have gn : G (qs.set pos' new) pos' = new := by rw [G_set _ _ _ _ hl', if_pos rfl]
      have gp : G (qs.set pos' new) ((pos' - 1) / 2) = G qs ((pos' - 1) / 2) := by rw [G_set _ _ _ _ hl', if_neg (by omega)]
      by_cases hc : plt' new (G qs ((pos' - 1) / 2))
      · rw [if_pos (by simpa [plt'] using hc)]
        refine ⟨_, rfl, _, e1, _, e3, ?_⟩
        show plset (.ref h) (.int (pos' : Int)) _ _ _ _
        rw [plset]
        refine ⟨qs.map tp, by simp [LS.set, e5], by omega, by simp; omega, ?_⟩
        refine ⟨_, rfl, ?_⟩
        have hst := hsd.step hd' hlt (by simpa using hl') (by rw [gn, gp]; exact hc)
        rw [gn, gp] at hst
        have e8 : ((qs.set pos' new).set pos' (G qs ((pos' - 1) / 2))).set ((pos' - 1) / 2) new = (qs.set pos' (G qs ((pos' - 1) / 2))).set ((pos' - 1) / 2) new := by rw [List.set_set]
        rw [e8] at hst
        refine ih ((pos' - 1) / 2) (by omega) (qs.set pos' (G qs ((pos' - 1) / 2))) _ (hd'.up hlt) (by simpa using hpl) hst ?_ e1 e2 rfl e4 ?_
        · have h1 : pos' < (qs.set pos' new).length := by simpa using hl'
          have h2 : (pos' - 1) / 2 < (qs.set pos' new).length := by simpa using hpl
          have := List.set_set_perm h1 h2
          refine List.Perm.trans ?_ hpm
          refine List.Perm.trans ?_ this
          have g1 : (qs.set pos' new)[(pos' - 1) / 2] = G qs ((pos' - 1) / 2) := by
            have := G_get h2; rw [List.getElem?_eq_getElem h2] at this; rw [Option.some.inj this, gp]
          have g2 : (qs.set pos' new)[pos'] = new := by simp
          rw [g1, g2, e8]
        · funext b
          simp only [LS.put, LS.set, e5, Int.toNat_natCast, List.map_set]
          by_cases z : b = h <;> simp [z, tp]
      · rw [if_neg (by simpa [plt'] using hc)]
        refine ⟨_, e4, _, e1, _, e3, fin pos' qs _ hl' (hsd.stop (.inr (by rw [gn, gp]; exact ple_of_not_lt hc))) hpm e5⟩
    · show (if decide ((st : Int) < (pos' : Int)) = true then _ else _)
      rw [if_neg (by simpa using hlt)]
      refine ⟨_, e4, _, e1, _, e3, fin pos' qs σ' hl' (hsd.stop (.inl (by omega))) hpm e5⟩
end Mine
end
noncomputable section
open PySem
set_option linter.unusedVariables false
set_option linter.unusedSimpArgs false
namespace Mine
/-- the list that _siftup goes down in, its hole at pos -/
structure SU (st pos : Nat) (qs : List Pr) : Prop where
  edge : ∀ i, 0 < i → i < qs.length → st ≤ (i - 1) / 2 → i ≠ pos → (i - 1) / 2 ≠ pos → ple (G qs ((i - 1) / 2)) (G qs i)
  grand : ∀ i, 0 < i → i < qs.length → (i - 1) / 2 = pos → st < pos → ple (G qs ((pos - 1) / 2)) (G qs i)
theorem SU.step {st pos c : Nat} {qs : List Pr} (h : SU st pos qs) (hd : Desc st pos) (hc : c < qs.length) (hcp : c = 2 * pos + 1 ∨ c = 2 * pos + 2) (hmin : ∀ i, 0 < i → i < qs.length → (i - 1) / 2 = pos → ple (G qs c) (G qs i)) :
    SU st c (qs.set pos (G qs c)) := by
  have hpc : pos < c ∧ (c - 1) / 2 = pos := by
    rcases hcp with rfl | rfl
    · exact ⟨child_lt _, par1 _⟩
    · exact ⟨Nat.lt_succ_of_lt (child_lt _), par2 _⟩
  obtain ⟨hpc, hcd⟩ := hpc
  have hp : pos < qs.length := Nat.lt_trans hpc hc
  have hle := hd.le
  have c0 : 0 < c := Nat.lt_of_le_of_lt (Nat.zero_le _) hpc
  have hg : ∀ j, G (qs.set pos (G qs c)) j = if j = pos then G qs c else G qs j := fun j => G_set _ _ _ _ hp
  constructor
  · intro i h0 hl hs hne hpc
    simp only [List.length_set] at hl
    rw [hg, hg]
    by_cases e : i = pos
    · subst e
      rw [if_pos rfl, if_neg (Nat.ne_of_lt (par_lt h0))]
      exact h.grand c c0 hc hcd (Nat.lt_of_le_of_lt hs (par_lt h0))
    · rw [if_neg e]
      by_cases e2 : (i - 1) / 2 = pos
      · rw [if_pos e2]; exact hmin i h0 hl e2
      · rw [if_neg e2]; exact h.edge i h0 hl hs e e2
  · intro i h0 hl hi hlt
    simp only [List.length_set] at hl
    rw [hg, hg]
    have hip : i ≠ pos := Nat.ne_of_gt (Nat.lt_trans hpc (hi ▸ par_lt h0))
    rw [if_pos hcd, if_neg hip]
    have := h.edge i h0 hl (by rw [hi]; exact Nat.le_of_lt hlt) hip (by rw [hi]; exact Nat.ne_of_gt hpc)
    rw [hi] at this
    exact this
theorem SU.fin {st pos : Nat} {qs : List Pr} {new : Pr} (h : SU st pos qs) (hp : pos < qs.length) (hend : qs.length ≤ 2 * pos + 1) : SD st pos (qs.set pos new) := by
  have hg : ∀ j, G (qs.set pos new) j = if j = pos then new else G qs j := fun j => G_set _ _ _ _ hp
  constructor
  · intro i h0 hl hs hne
    simp only [List.length_set] at hl
    have hno : (i - 1) / 2 ≠ pos := fun z => absurd (Nat.le_trans hend (z ▸ child_ge h0)) (Nat.not_le.mpr hl)
    rw [hg, hg, if_neg hno, if_neg hne]
    exact h.edge i h0 hl hs hne hno
  · intro i h0 hl hi hlt
    simp only [List.length_set] at hl
    exact absurd (Nat.le_trans hend (hi ▸ child_ge h0)) (Nat.not_le.mpr hl)
theorem put_back {σ σ' : LS} {h : Nat} {o x : LO} {y : Option LO} (e5 : σ'.heap = fun b => if b = h then y else σ.heap b) : ({ loc := σ.loc, heap := ((σ'.put h x).put h o).heap } : LS) = σ.put h o := by
  simp only [LS.put, e5]
  congr 1
  funext b
  by_cases z : b = h <;> simp [z]
theorem C_siftup {σ : LS} {h : Nat} {ps : List Pr} {st : Nat} {Q : LV → LS → Prop} {E : LX → LS → Prop} (hp : st < ps.length) (hsz : ps.length ≤ 1000) (hh : σ.heap h = some (.list (ps.map tp))) (hi : HeapFrom (st + 1) ps)
    (hQ : ∀ ps', ps'.Perm ps → HeapFrom st ps' → Q .none (σ.put h (.list (ps'.map tp)))) : P_siftup ad2 [.ref h, .int st] Q E σ := by
  refine ⟨_, rfl, ?_⟩
  simp only [B_siftup, pseq, pbind, pget, pset, pret]
  refine ⟨_, rfl, ?_⟩
  show plen [.ref h] _ _ _
  rw [plen]
  refine ⟨_, hh, ?_⟩
  refine ⟨_, rfl, _, rfl, _, rfl, ?_⟩
  show plget (.ref h) (.int st) _ _ _
  rw [plget]
  refine ⟨_, _, hh, by omega, by rw [List.getElem?_map, Int.toNat_natCast, G_get hp]; rfl, ?_⟩
  refine ⟨_, rfl, ?_⟩
  show pmul (.int 2) (.int st) _ _ _
  rw [pmul]
  refine ⟨by omega, ?_⟩
  show pwhile _ _ _ _ _ _
  intro P step
  generalize hnew : G ps st = new
  suffices H : ∀ m pos' (qs : List Pr) (σ' : LS), ps.length - pos' ≤ m → Desc st pos' → pos' < qs.length → qs.length = ps.length → SU st pos' qs → (qs.set pos' new).Perm ps → σ'.loc "heap" = some (.ref h) → σ'.loc "startpos" = some (.int st) → σ'.loc "pos" = some (.int pos') → σ'.loc "newitem" = some (tp new) →
      σ'.loc "endpos" = some (.int ps.length) → σ'.loc "childpos" = some (.int (2 * pos' + 1 : Nat)) → σ'.heap = (fun b => if b = h then some (.list (qs.map tp)) else σ.heap b) → P σ' by
    have e : ps.set st new = ps := by
      rw [← hnew]
      apply List.ext_getElem?
      intro j
      rw [List.getElem?_set]
      split
      · rename_i e; subst e; rw [G_get hp]
      · rfl
    refine H _ st ps _ (Nat.le_refl _) .refl hp rfl ⟨fun i h0 hl hs hne hpc => hi i h0 hl (by omega), fun i h0 hl hi hlt => by omega⟩ (by rw [e]) rfl rfl rfl ?_ ?_ ?_ ?_
    · rw [← hnew]; rfl
    · simp [LS.set]
    · simp [LS.set]
    · funext b; by_cases z : b = h
      · subst z; rw [if_pos rfl]; exact hh
      · rw [if_neg z]; rfl
  intro m
  induction m with
  | zero => intro pos' qs σ' hm hd' hl' hlen; omega
  | succ m ih =>
    intro pos' qs σ' hm hd' hl' hlen hsu hpm e1 e2 e3 e4 e6 e7 e5
    refine step σ' ?_
    refine ⟨_, e7, _, e6, ?_⟩
    by_cases hlt : 2 * pos' + 1 < ps.length
    · show (if decide (((2 * pos' + 1 : Nat) : Int) < (ps.length : Int)) = true then _ else _)
      rw [if_pos (by simp; omega)]
      have turn : ∀ c (σ₂ : LS), c < qs.length → (c = 2 * pos' + 1 ∨ c = 2 * pos' + 2) → (∀ i, 0 < i → i < qs.length → (i - 1) / 2 = pos' → ple (G qs c) (G qs i)) → σ₂.loc "heap" = some (.ref h) → σ₂.loc "startpos" = some (.int st) → σ₂.loc "pos" = some (.int pos') → σ₂.loc "newitem" = some (tp new) →
          σ₂.loc "endpos" = some (.int ps.length) → σ₂.loc "childpos" = some (.int c) → σ₂.heap = σ'.heap → P (((σ₂.put h (.list ((qs.map tp).set pos' (tp (G qs c))))).set "pos" (.int c)).set "childpos" (.int (2 * c + 1 : Nat))) := by
        intro c σ₂ hc hcp hmin f1 f2 f3 f4 f5 f6 f7
        refine ih c (qs.set pos' (G qs c)) _ (by omega) ?_ (by simpa using hc) (by simpa using hlen) (hsu.step hd' hc hcp hmin) ?_ f1 f2 rfl f4 f5 rfl ?_
        · rcases hcp with rfl | rfl
          · exact hd'.left
          · exact hd'.right
        · have h1 : pos' < (qs.set pos' new).length := by simpa using hl'
          have h2 : c < (qs.set pos' new).length := by simpa using hc
          have := List.set_set_perm h1 h2
          refine List.Perm.trans ?_ hpm
          refine List.Perm.trans ?_ this
          have g1 : (qs.set pos' new)[c] = G qs c := by
            have := G_get h2; rw [List.getElem?_eq_getElem h2] at this; rw [Option.some.inj this, G_set _ _ _ _ hl', if_neg (by omega)]
          have g2 : (qs.set pos' new)[pos'] = new := by simp
          rw [g1, g2, List.set_set]
        · funext b
          simp only [LS.put, LS.set, f7, e5, List.map_set]
          by_cases z : b = h <;> simp [z]
      refine ⟨_, e7, ?_⟩
      show (∃ v, _ ∧ _)
      refine ⟨_, rfl, _, e6, ?_⟩
      have e12 : (((2 * pos' + 1 : Nat) : Int) + 1) = ((2 * pos' + 2 : Nat) : Int) := by omega
      rw [e12]
      show (if decide (((2 * pos' + 2 : Nat) : Int) < (ps.length : Int)) = true then _ else _)
      by_cases hr : 2 * pos' + 2 < ps.length
      · rw [if_pos (by simp; omega)]
        refine ⟨_, e1, _, e7, ?_⟩
        rw [plget]
        refine ⟨qs.map tp, _, by simp [LS.set, e5], by omega, by rw [List.getElem?_map, Int.toNat_natCast, G_get (by omega)]; rfl, ?_⟩
        refine ⟨_, e1, _, rfl, ?_⟩
        show plget (.ref h) (.int ((2 * pos' + 2 : Nat) : Int)) _ _ _
        rw [plget]
        refine ⟨qs.map tp, _, by simp [LS.set, e5], by omega, by rw [List.getElem?_map, Int.toNat_natCast, G_get (by omega)]; rfl, ?_⟩
        refine ltT_go (i := (G qs (2 * pos' + 1)).1) (j := (G qs (2 * pos' + 1)).2) (k := (G qs (2 * pos' + 2)).1) (l := (G qs (2 * pos' + 2)).2) ?_
        show (if (!decide ((G qs (2 * pos' + 1)).1 < (G qs (2 * pos' + 2)).1 ∨ (G qs (2 * pos' + 1)).1 = (G qs (2 * pos' + 2)).1 ∧ (G qs (2 * pos' + 1)).2 < (G qs (2 * pos' + 2)).2)) = true then _ else _)
        by_cases hc : plt' (G qs (2 * pos' + 1)) (G qs (2 * pos' + 2))
        · rw [if_neg (fun z => by simp only [Bool.not_eq_true', decide_eq_false_iff_not] at z; exact z hc)]
          refine ⟨_, e1, _, e7, ?_⟩
          show plget (.ref h) (.int ((2 * pos' + 1 : Nat) : Int)) _ _ _
          rw [plget]
          refine ⟨qs.map tp, _, by simp [LS.set, e5], by omega, by rw [List.getElem?_map, Int.toNat_natCast, G_get (by omega)]; rfl, ?_⟩
          refine ⟨_, e1, _, e3, ?_⟩
          show plset (.ref h) (.int (pos' : Int)) _ _ _ _
          rw [plset]
          refine ⟨qs.map tp, by simp [LS.set, e5], by omega, by simp; omega, ?_⟩
          refine ⟨_, e7, _, rfl, ?_⟩
          show pmul (.int 2) (.int ((2 * pos' + 1 : Nat) : Int)) _ _ _
          rw [pmul]
          refine ⟨by omega, ?_⟩
          exact turn (2 * pos' + 1) _ (by omega) (by omega) (fun i h0 hl hi9 => by rcases (show i = 2 * pos' + 1 ∨ i = 2 * pos' + 2 by omega) with rfl | rfl; exact ple_refl _; exact ple_of_lt hc) e1 e2 e3 e4 e6 e7 rfl
        · rw [if_pos (by simp only [Bool.not_eq_true', decide_eq_false_iff_not]; exact hc)]
          refine ⟨_, rfl, ?_⟩
          refine ⟨_, e1, _, rfl, ?_⟩
          show plget (.ref h) (.int ((2 * pos' + 2 : Nat) : Int)) _ _ _
          rw [plget]
          refine ⟨qs.map tp, _, by simp [LS.set, e5], by omega, by rw [List.getElem?_map, Int.toNat_natCast, G_get (by omega)]; rfl, ?_⟩
          refine ⟨_, e1, _, e3, ?_⟩
          show plset (.ref h) (.int (pos' : Int)) _ _ _ _
          rw [plset]
          refine ⟨qs.map tp, by simp [LS.set, e5], by omega, by simp; omega, ?_⟩
          refine ⟨_, rfl, _, rfl, ?_⟩
          show pmul (.int 2) (.int ((2 * pos' + 2 : Nat) : Int)) _ _ _
          rw [pmul]
          refine ⟨by omega, ?_⟩
          exact turn (2 * pos' + 2) _ (by omega) (by omega) (fun i h0 hl hi9 => by rcases (show i = 2 * pos' + 1 ∨ i = 2 * pos' + 2 by omega) with rfl | rfl; exact ple_of_not_lt hc; exact ple_refl _) e1 e2 e3 e4 e6 rfl rfl
      · rw [if_neg (by simp; omega)]
        show (if false = true then _ else _)
        rw [if_neg (by decide)]
        refine ⟨_, e1, _, e7, ?_⟩
        show plget (.ref h) (.int ((2 * pos' + 1 : Nat) : Int)) _ _ _
        rw [plget]
        refine ⟨qs.map tp, _, by simp [LS.set, e5], by omega, by rw [List.getElem?_map, Int.toNat_natCast, G_get (by omega)]; rfl, ?_⟩
        refine ⟨_, e1, _, e3, ?_⟩
        show plset (.ref h) (.int (pos' : Int)) _ _ _ _
        rw [plset]
        refine ⟨qs.map tp, by simp [LS.set, e5], by omega, by simp; omega, ?_⟩
        refine ⟨_, e7, _, rfl, ?_⟩
        show pmul (.int 2) (.int ((2 * pos' + 1 : Nat) : Int)) _ _ _
        rw [pmul]
        refine ⟨by omega, ?_⟩
        exact turn (2 * pos' + 1) _ (by omega) (by omega) (fun i h0 hl hi9 => by rcases (show i = 2 * pos' + 1 by omega) with rfl; exact ple_refl _) e1 e2 e3 e4 e6 e7 rfl
    · show (if decide (((2 * pos' + 1 : Nat) : Int) < (ps.length : Int)) = true then _ else _)
      rw [if_neg (by simp; omega)]
      refine ⟨_, e4, _, e1, _, e3, ?_⟩
      show plset (.ref h) (.int pos') (tp new) _ _ _
      rw [plset]
      refine ⟨qs.map tp, by rw [e5]; simp, by omega, by simp; omega, ?_⟩
      refine ⟨_, e1, _, e2, _, e3, ?_⟩
      refine C_siftdown (ps := qs.set pos' new) hd' (by simpa using hl') ?_ (hsu.fin hl' (by omega)) fun ps' hpm' hhp => ?_
      · simp [LS.put, List.map_set]
      · have := hQ _ (hpm'.trans hpm) hhp
        have e9 : ({ loc := σ.loc, heap := ((σ'.put h (.list ((qs.map tp).set (pos' : Int).toNat (tp new)))).put h (.list (ps'.map tp))).heap } : LS) = σ.put h (.list (ps'.map tp)) := put_back e5
        rw [← e9] at this
        exact this
end Mine
end
noncomputable section
open PySem
set_option linter.unusedVariables false
set_option linter.unusedSimpArgs false
namespace Mine
theorem heap_min {ps : List Pr} (h : HeapFrom 0 ps) : ∀ i, i < ps.length → ple (G ps 0) (G ps i) := by
  intro i
  induction i using Nat.strongRecOn with
  | ind i ih =>
    intro hl
    rcases Nat.eq_zero_or_pos i with rfl | h0
    · exact ple_refl _
    · exact ple_trans (ih ((i - 1) / 2) (by omega) (by omega)) (h i h0 hl (Nat.zero_le _))
theorem G_append {ps : List Pr} {x : Pr} {i : Nat} (h : i < ps.length) : G (ps ++ [x]) i = G ps i := by
  unfold G; rw [List.getElem?_append_left h]
theorem mem_G {ps : List Pr} {q : Pr} (h : q ∈ ps) : ∃ i, i < ps.length ∧ G ps i = q := by
  obtain ⟨i, hi, e⟩ := List.mem_iff_getElem.mp h
  exact ⟨i, hi, by unfold G; rw [List.getElem?_eq_getElem hi, e]; rfl⟩

theorem C_heappush {σ : LS} {h : Nat} {ps : List Pr} {x : Pr} {Q : LV → LS → Prop} {E : LX → LS → Prop} (hsz : ps.length < 1000) (hh : σ.heap h = some (.list (ps.map tp))) (hi : HeapFrom 0 ps)
    (hQ : ∀ ps', ps'.Perm (x :: ps) → HeapFrom 0 ps' → Q .none (σ.put h (.list (ps'.map tp)))) : P_heappush ad2 [.ref h, tp x] Q E σ := by
  refine ⟨_, rfl, ?_⟩
  simp only [B_heappush, pseq, pbind, pget, pset, pret]
  refine ⟨_, rfl, ?_⟩
  show pislist (.ref h) _ _ _
  rw [pislist]
  refine ⟨⟨_, hh⟩, _, rfl, ?_⟩
  show plappend (.ref h) [tp x] _ _ _
  rw [plappend]
  refine ⟨_, hh, by have : 1000 ≤ cap := by decide
                    simp; omega, ?_⟩
  refine ⟨_, rfl, _, rfl, ?_⟩
  show plen [.ref h] _ _ _
  rw [plen]
  refine ⟨ps.map tp ++ [tp x], by simp [LS.put], ?_⟩
  have hl : (((ps.map tp ++ [tp x]).length : Int) - 1) = (ps.length : Int) := by simp
  simp only [psub.eq_1, pret, hl]
  refine C_siftdown (st := 0) (ps := ps ++ [x]) (desc0 _) (by simp) (by simp [LS.put]) ⟨fun i h0 hl hs hne => ?_, fun i h0 hl hi hlt => ?_⟩ fun ps' hpm hhp => ?_
  · simp at hl
    rw [G_append (by omega), G_append (by omega)]
    exact hi i h0 (by omega) (Nat.zero_le _)
  · simp at hl; omega
  · have := hQ ps' (hpm.trans (List.perm_append_comm (l₁ := ps) (l₂ := [x]))) hhp
    have e9 : ({ loc := σ.loc, heap := (((({ loc := bindLoc [("heap", LV.ref h), ("item", tp x)] fun _ => none, heap := σ.heap } : LS).put h (.list (ps.map tp ++ [tp x])))).put h (.list (ps'.map tp))).heap } : LS) = σ.put h (.list (ps'.map tp)) := put_back (y := σ.heap h) (by funext b; by_cases z : b = h <;> simp [z])
    rw [← e9] at this
    exact this

theorem C_heappop {σ : LS} {h : Nat} {ps : List Pr} {Q : LV → LS → Prop} {E : LX → LS → Prop} (hne : ps ≠ []) (hsz : ps.length < 1000) (hh : σ.heap h = some (.list (ps.map tp))) (hi : HeapFrom 0 ps)
    (hQ : ∀ p ps', (p :: ps').Perm ps → (∀ q ∈ ps, ple p q) → HeapFrom 0 ps' → Q (tp p) (σ.put h (.list (ps'.map tp)))) : P_heappop ad2 [.ref h] Q E σ := by
  obtain ⟨init, last, rfl⟩ : ∃ init last, ps = init ++ [last] := ⟨ps.dropLast, ps.getLast hne, (List.dropLast_concat_getLast hne).symm⟩
  have hmin := heap_min hi
  refine ⟨_, rfl, ?_⟩
  simp only [B_heappop, pseq, pbind, pget, pset, pret]
  refine ⟨_, rfl, ?_⟩
  show pislist (.ref h) _ _ _
  rw [pislist]
  refine ⟨⟨_, hh⟩, ?_⟩
  rw [plpop]
  refine ⟨_, tp last, hh, by simp, ?_⟩
  have e1 : ((init ++ [last]).map tp).dropLast = init.map tp := by simp
  rw [e1]
  refine ⟨_, rfl, ?_⟩
  show ptruth (.ref h) _ _ _
  rw [ptruth]
  refine ⟨init.map tp, by simp [LS.set, LS.put], ?_⟩
  cases init with
  | nil =>
    show (if false = true then _ else _)
    rw [if_neg (by decide)]
    refine ⟨_, rfl, ?_⟩
    have := hQ last [] (by simp) (by simp [ple_refl]) (fun i h0 hl => by simp at hl)
    exact this
  | cons first rest =>
    show (if true = true then _ else _)
    rw [if_pos rfl]
    refine ⟨_, rfl, ?_⟩
    show plget (.ref h) (.int 0) _ _ _
    rw [plget]
    refine ⟨((first :: rest).map tp), tp first, by simp [LS.set, LS.put], by decide, by simp, ?_⟩
    refine ⟨_, rfl, _, rfl, ?_⟩
    show plset (.ref h) (.int 0) (tp last) _ _ _
    rw [plset]
    refine ⟨((first :: rest).map tp), by simp [LS.set, LS.put], by decide, by simp, ?_⟩
    refine ⟨_, rfl, ?_⟩
    refine C_siftup (E := noE) (st := 0) (ps := last :: rest) (by simp) (by simp at hsz ⊢; omega) (by simp [LS.put]) ?_ fun ps' hpm hhp => ?_
    · intro i h0 hl hs
      simp at hl
      have g : ∀ j, 0 < j → j < rest.length + 1 → G (last :: rest) j = G (first :: rest ++ [last]) j := fun j hj hjl => by
        unfold G
        rw [List.getElem?_append_left (by simp; omega)]
        cases j with
        | zero => omega
        | succ j => simp
      rw [g i h0 (by omega), g _ (by omega) (by omega)]
      exact hi i h0 (by simp; omega) (Nat.zero_le _)
    · refine ⟨_, rfl, ?_⟩
      have gf : G (first :: rest ++ [last]) 0 = first := by simp [G]
      have := hQ first ps' ?_ ?_ hhp
      · refine Eq.mp (congrArg (Q (tp first)) ?_) this
        simp only [LS.put, LS.set]
        congr 1
        funext b
        by_cases z : b = h <;> simp [z]
      · refine (List.Perm.cons first hpm).trans ?_
        simp
        exact (List.perm_append_comm (l₁ := [last]) (l₂ := rest))
      · intro q hq
        obtain ⟨i, hil, rfl⟩ := mem_G hq
        have := hmin i hil
        rw [gf] at this
        exact this
end Mine
end
noncomputable section
open PySem
set_option linter.unusedVariables false
set_option linter.unusedSimpArgs false
namespace Mine
theorem C_heapify {σ : LS} {h : Nat} {ps : List Pr} {Q : LV → LS → Prop} {E : LX → LS → Prop} (hsz : ps.length < 1000) (hh : σ.heap h = some (.list (ps.map tp)))
    (hQ : ∀ ps', ps'.Perm ps → HeapFrom 0 ps' → Q .none (σ.put h (.list (ps'.map tp)))) : P_heapify ad2 [.ref h] Q E σ := by
  refine ⟨_, rfl, ?_⟩
  simp only [B_heapify, pseq, pbind, pget, pset, pret]
  refine ⟨_, rfl, ?_⟩
  show plen [.ref h] _ _ _
  rw [plen]
  refine ⟨_, hh, ?_⟩
  refine ⟨_, rfl, ?_⟩
  show pdiv (.int ((ps.map tp).length : Int)) (.int 2) _ _ _
  rw [pdiv]
  refine ⟨by decide, ?_⟩
  have e1 : (((ps.map tp).length : Nat) : Int).fdiv 2 = ((ps.length / 2 : Nat) : Int) := by
    rw [Int.fdiv_eq_ediv_of_nonneg _ (by decide)]; simp
  rw [e1]
  show prange1 [.int ((ps.length / 2 : Nat) : Int)] _ _ _
  rw [prange1]
  show prevr (.rng 0 ((ps.length / 2 : Nat) : Int) 1) _ _ _
  rw [prevr]
  refine ⟨⟨rfl, rfl, by omega, by omega⟩, ?_⟩
  rw [Int.toNat_natCast]
  have key : ∀ k (qs : List Pr) (σ' : LS), k ≤ ps.length → qs.Perm ps → HeapFrom k qs → σ'.loc "x" = some (.ref h) → σ'.heap = (fun b => if b = h then some (.list (qs.map tp)) else σ.heap b) →
      pforL (fun _ => True) (pset "i") (pbind (pbind (pbind (pget "x") fun a => pbind (pbind (pget "i") fun a => pbind (pret []) fun as => pret (a :: as)) fun as => pret (a :: as)) (P_siftup ad2)) fun _ => pret .next) (pret .next) ((List.range k).map fun (i : Nat) => LV.int (i : Int)).reverse
        (fun fl σ' => match fl with | .ret v => Q v ⟨σ.loc, σ'.heap⟩ | .next => Q .none ⟨σ.loc, σ'.heap⟩ | _ => False) noE σ' := by
    intro k
    induction k with
    | zero =>
      intro qs σ' hk hpm hhp e1 e5
      refine ⟨trivial, ?_⟩
      have := hQ qs hpm hhp
      refine Eq.mp (congrArg (Q .none) ?_) this
      simp only [LS.put, e5]
    | succ k ih =>
      intro qs σ' hk hpm hhp e1 e5
      have hlen := hpm.length_eq
      rw [List.range_succ, List.map_append, List.reverse_append]
      refine ⟨trivial, ?_⟩
      refine ⟨_, e1, _, rfl, ?_⟩
      refine C_siftup (E := noE) (st := k) (ps := qs) (by omega) (by omega) (by simp [LS.set, e5]) hhp fun ps' hpm' hhp' => ?_
      refine ih ps' _ (by omega) (hpm'.trans hpm) hhp' e1 ?_
      funext b
      simp only [LS.put, LS.set, e5]
      by_cases z : b = h <;> simp [z]
  refine key (ps.length / 2) ps _ (by omega) (.refl _) (fun i h0 hl hs => by omega) rfl ?_
  funext b; by_cases z : b = h
  · subst z; rw [if_pos rfl]; exact hh
  · rw [if_neg z]; rfl
end Mine
end
noncomputable section
open PySem
set_option linter.unusedVariables false
set_option linter.unusedSimpArgs false
namespace Mine
def lessL (xs ys : List Int) : List Int := xs.filter fun a => !ys.contains a
structure Mg (xs ys : List Int) (i j : Nat) (mi un : List Int) : Prop where
  mi : mi = lessL (xs.take i) ys
  un : un = lessL (ys.take j) xs
  lt1 : ∀ a ∈ xs.take i, ∀ b ∈ ys.drop j, a < b
  lt2 : ∀ b ∈ ys.take j, ∀ a ∈ xs.drop i, b < a
theorem Mg.start (xs ys : List Int) : Mg xs ys 0 0 [] [] := ⟨rfl, rfl, fun _ h => by simp at h, fun _ h => by simp at h⟩
theorem Mg.swap {xs ys : List Int} {i j : Nat} {mi un : List Int} (h : Mg xs ys i j mi un) : Mg ys xs j i un mi := ⟨h.un, h.mi, h.lt2, h.lt1⟩
theorem mem_take_drop {ys : List Int} {b : Int} (j : Nat) (h : b ∈ ys) : b ∈ ys.take j ∨ b ∈ ys.drop j := by
  rw [← List.take_append_drop j ys] at h; exact List.mem_append.mp h
theorem take_succ' {xs : List Int} {i : Nat} (h : i < xs.length) : xs.take (i + 1) = xs.take i ++ [xs[i]] := by rw [List.take_succ_eq_append_getElem h]
theorem drop_gt {xs : List Int} (hx : xs.Pairwise (· < ·)) {i : Nat} (h : i < xs.length) : ∀ a ∈ xs.drop (i + 1), xs[i] < a := by
  intro a ha
  have := hx.drop (i := i)
  rw [List.drop_eq_getElem_cons h, List.pairwise_cons] at this
  exact this.1 a ha
theorem Mg.lt {xs ys : List Int} {i j : Nat} {mi un : List Int} (h : Mg xs ys i j mi un) (hx : xs.Pairwise (· < ·)) (hy : ys.Pairwise (· < ·)) (hi : i < xs.length) (hj : j < ys.length) (hlt : xs[i] < ys[j]) : Mg xs ys (i + 1) j (mi ++ [xs[i]]) un := by
  have hno : ys.contains xs[i] = false := by
    rw [Bool.eq_false_iff]
    intro hc
    rw [List.contains_iff_mem] at hc
    rcases mem_take_drop j hc with q | q
    · have := h.lt2 _ q xs[i] (by rw [List.drop_eq_getElem_cons hi]; exact .head _); omega
    · rw [List.drop_eq_getElem_cons hj] at q
      rcases List.mem_cons.mp q with q | q
      · omega
      · have := drop_gt hy hj _ q; omega
  refine ⟨?_, h.un, fun a ha b hb => ?_, fun b hb a ha => h.lt2 b hb a (List.mem_of_mem_drop (i := 1) (by rw [List.drop_drop]; exact ha))⟩
  · rw [take_succ' hi, lessL, List.filter_append, ← lessL, ← h.mi]
    simp only [List.filter_cons, List.filter_nil, hno, Bool.not_false, if_true]
  · rw [take_succ' hi] at ha
    rcases List.mem_append.mp ha with q | q
    · exact h.lt1 a q b hb
    · rw [List.mem_singleton.mp q]
      rw [List.drop_eq_getElem_cons hj] at hb
      rcases List.mem_cons.mp hb with z | z
      · rw [z]; exact hlt
      · have := drop_gt hy hj _ z; omega
theorem Mg.eq {xs ys : List Int} {i j : Nat} {mi un : List Int} (h : Mg xs ys i j mi un) (hx : xs.Pairwise (· < ·)) (hy : ys.Pairwise (· < ·)) (hi : i < xs.length) (hj : j < ys.length) (he : xs[i] = ys[j]) : Mg xs ys (i + 1) (j + 1) mi un := by
  have c1 : ys.contains xs[i] = true := by rw [he, List.contains_iff_mem]; exact List.getElem_mem hj
  have c2 : xs.contains ys[j] = true := by rw [← he, List.contains_iff_mem]; exact List.getElem_mem hi
  refine ⟨?_, ?_, fun a ha b hb => ?_, fun b hb a ha => ?_⟩
  · rw [take_succ' hi, lessL, List.filter_append, ← lessL, ← h.mi]
    simp only [List.filter_cons, List.filter_nil, c1, Bool.not_true, if_false, Bool.false_eq_true, List.append_nil]
  · rw [take_succ' hj, lessL, List.filter_append, ← lessL, ← h.un]
    simp only [List.filter_cons, List.filter_nil, c2, Bool.not_true, if_false, Bool.false_eq_true, List.append_nil]
  · have hb' := drop_gt hy hj b hb
    rw [take_succ' hi] at ha
    rcases List.mem_append.mp ha with q | q
    · exact h.lt1 a q b (List.mem_of_mem_drop (i := 1) (by rw [List.drop_drop]; exact hb))
    · rw [List.mem_singleton.mp q, he]; exact hb'
  · have ha' := drop_gt hx hi a ha
    rw [take_succ' hj] at hb
    rcases List.mem_append.mp hb with q | q
    · exact h.lt2 b q a (List.mem_of_mem_drop (i := 1) (by rw [List.drop_drop]; exact ha))
    · rw [List.mem_singleton.mp q, ← he]; exact ha'
theorem Mg.done {xs ys : List Int} {i j : Nat} {mi un : List Int} (h : Mg xs ys i j mi un) (he : xs.length ≤ i ∨ ys.length ≤ j) : mi ++ xs.drop i = lessL xs ys ∧ un ++ ys.drop j = lessL ys xs := by
  have key : ∀ (xs ys : List Int) (i j : Nat) (mi un : List Int), Mg xs ys i j mi un → (xs.length ≤ i ∨ ys.length ≤ j) → mi ++ xs.drop i = lessL xs ys := by
    intro xs ys i j mi un h he
    have e : lessL xs ys = lessL (xs.take i) ys ++ lessL (xs.drop i) ys := by unfold lessL; rw [← List.filter_append, List.take_append_drop]
    rw [e, ← h.mi]
    congr 1
    unfold lessL
    symm
    rw [List.filter_eq_self]
    intro a ha
    rw [Bool.not_eq_true', Bool.eq_false_iff]
    intro hc
    rw [List.contains_iff_mem] at hc
    rcases he with q | q
    · rw [List.drop_of_length_le q] at ha; simp at ha
    · have : a ∈ ys.take j := by rw [List.take_of_length_le q]; exact hc
      have := h.lt2 a this a ha
      omega
  exact ⟨key xs ys i j mi un h he, key ys xs j i un mi h.swap he.symm⟩
end Mine
end
noncomputable section
open PySem
set_option linter.unusedVariables false
set_option linter.unusedSimpArgs false
namespace Mine
/-- the loops that pass by equal items: here none is -/
theorem inner_go {nl ni ne : String} {body : PTx LF} {K : LF → LS → Prop} {E : LX → LS → Prop} {σ : LS} {x i : Nat} {xs : List Int} {e : Int} (h1 : σ.loc nl = some (.ref x)) (h2 : σ.heap x = some (.list (xs.map .int))) (h3 : σ.loc ni = some (.int i)) (hi : i ≤ 2000) (h4 : σ.loc ne = some (.int e))
    (hne : ∀ h : i < xs.length, xs[i] ≠ e) (q1 : i < xs.length → K .next σ) (q2 : xs.length ≤ i → E ⟨"IndexError", false⟩ σ) :
    pwhile (pbind (pbind (pget nl) fun a => pbind (pget ni) fun b => plitem a b) fun a => pbind (pget ne) fun b => peq a b) body (pret .next) K E σ := by
  intro P step
  refine step σ ?_
  refine ⟨_, h1, _, h3, ?_⟩
  show plitem (.ref x) (.int (i : Int)) _ _ _
  rw [plitem]
  refine ⟨_, h2, by omega, by omega, ?_⟩
  rw [List.getElem?_map, Int.toNat_natCast]
  by_cases hl : i < xs.length
  · rw [List.getElem?_eq_getElem hl]
    refine ⟨_, h4, ?_⟩
    show (if (xs[i] == e) = true then _ else _)
    rw [if_neg (by simpa using hne hl)]
    exact q1 hl
  · rw [List.getElem?_eq_none (by omega)]
    exact q2 (by omega)
theorem inner_goH {nl ni ne : String} {body : PTx LF} {K : LF → LS → Prop} {E : LX → LS → Prop} {σ : LS} {x i : Nat} {xs : List Int} {e : Int} (h1 : σ.loc nl = some (.ref x)) (h2 : σ.heap x = some (.list (xs.map .int))) (h3 : σ.loc ni = some (.int i)) (hi : i ≤ 2000) (h4 : σ.loc ne = some (.int e))
    (hne : ∀ h : i < xs.length, xs[i] ≠ e) (q1 : i < xs.length → K .next σ) (q2 : xs.length ≤ i → E ⟨"IndexError", true⟩ σ) :
    pwhile (pbind (pbind (pget nl) fun a => pbind (pget ni) fun b => plitemH a b) fun a => pbind (pget ne) fun b => peq a b) body (pret .next) K E σ := by
  intro P step
  refine step σ ?_
  refine ⟨_, h1, _, h3, ?_⟩
  show plitemH (.ref x) (.int (i : Int)) _ _ _
  rw [plitemH]
  refine ⟨_, h2, by omega, by omega, ?_⟩
  rw [List.getElem?_map, Int.toNat_natCast]
  by_cases hl : i < xs.length
  · rw [List.getElem?_eq_getElem hl]
    refine ⟨_, h4, ?_⟩
    show (if (xs[i] == e) = true then _ else _)
    rw [if_neg (by simpa using hne hl)]
    exact q1 hl
  · rw [List.getElem?_eq_none (by omega)]
    exact q2 (by omega)
end Mine
end
noncomputable section
open PySem
set_option linter.unusedVariables false
set_option linter.unusedSimpArgs false
namespace Mine
-- PRE (my own short words for the walk: infer_instance = look up the heap; trivial = one step of a transformer)
set_option hygiene false in
local macro_rules | `(tactic| infer_instance) => `(tactic| first
  | assumption
  | exact upd_same
  | exact upd_new (by assumption) (by infer_instance)
  | exact upd_ne (by first | assumption | exact Ne.symm (by assumption)) (by infer_instance)
  | exact hE _ _ (by infer_instance))
set_option hygiene false in
local macro_rules | `(tactic| trivial) => `(tactic| first
  | ((with_reducible apply get_go); (first | rfl | assumption | exact (hℓ _ rfl).trans (by first | rfl | assumption)))
  | ((with_reducible first | apply islist_go | apply isdict_go | apply isset_go | apply len_go | apply lclear_go | apply tupof_go | apply listof_go | apply iter_go | apply nextof_go | apply bool_go | apply truth_go | apply items_go | apply keys_go | apply vals_go | apply ents_go | apply enum_go | apply rev_go | apply star_go | apply lin_go | apply lnotin_go | apply din_go | apply dnotin_go | apply sin_go | apply dget1_go | apply dget2_go | apply sum_go); infer_instance)
  | with_reducible first | apply dict0_go | apply set0_go | apply tup2_go | apply tup4_go | apply truthB_go | apply truthI_go | apply truthN_go | apply lt_go | apply gt_go | apply ge_go | apply eq_go | apply ne_go | apply isNoneN_go | apply isNoneR_go | apply isNotNoneN_go | apply isNotNoneR_go | apply add_go | apply sub_go | apply neg_go | apply or_go | apply intof_go | apply range1_go
  | ((with_reducible first | apply lenT_go | apply titems_go | apply starT_go); assumption)
  | ((with_reducible first | apply leq_go | apply leq0_go | apply setS_go); infer_instance; infer_instance)
  | ((with_reducible first | apply llast_go | apply dget_go); infer_instance; (first | rfl | assumption))
  | ((with_reducible apply lget_go); infer_instance; omega; (first | rfl | assumption))
  | ((with_reducible apply tget_go); omega; simp; (first | rfl | assumption))
  | ((with_reducible first | apply list_go | apply tuple_go); simp [cap])
  | ((with_reducible first | apply from_go | apply upto_go); infer_instance; omega)
  | ((with_reducible first | apply getD_go | apply getS_go); infer_instance; infer_instance; (first | rfl | assumption); (first | rfl | assumption))
  | ((with_reducible apply isinst_go); infer_instance; infer_instance; (first | rfl | assumption))
  | ((with_reducible apply setD_go); infer_instance; infer_instance; exact Nat.le_of_ble_eq_true rfl)
  | ((with_reducible first | apply mul_go | apply div_go | apply mod_go | apply pow_go | apply range3_go); decide)
  | refine if_true' rfl ?_
  | refine if_false' rfl ?_)
section
theorem dec_of {a k k' n : Nat} (hn : a - k = n) (h : k < a) (h' : k < k') : a - k' < n := hn ▸ Nat.sub_lt_sub_left h h'
theorem i60 {k : Nat} (h : k ≤ 2000) : (k : Int) < 2 ^ 60 := Int.lt_of_le_of_lt (Int.ofNat_le.mpr h) (by decide)
set_option maxHeartbeats 4000000 in
theorem C_sld {σ : LS} {x y : Nat} {xs ys : List Int} {Q : LV → LS → Prop} {E : LX → LS → Prop} (hx : σ.heap x = some (.list (xs.map .int))) (hy : σ.heap y = some (.list (ys.map .int))) (sx : xs.Pairwise (· < ·)) (sy : ys.Pairwise (· < ·)) (lx : xs.length ≤ 1000) (ly : ys.length ≤ 1000)
    (hQ : ∀ m u (τ : LH), σ.heap m = none → σ.heap u = none → m ≠ u → Ext σ.heap τ → τ m = some (.list ((lessL xs ys).map .int)) → τ u = some (.list ((lessL ys xs).map .int)) → Q (.tup [.ref m, .ref u]) ⟨σ.loc, τ⟩) :
    P_sorted_list_difference ad2 [.ref x, .ref y] Q E σ := by
  refine ⟨_, rfl, ?_⟩
  unfold B_sorted_list_difference
  trivial
  intro m hm
  trivial
  intro u hu
  have hm' : σ.heap m = none := hm
  have hmu : m ≠ u := fun z => by subst z; simp [LS.put, LS.set, upd] at hu
  have hu' : σ.heap u = none := by simpa [LS.put, LS.set, Ne.symm hmu, upd] using hu
  have hxm : x ≠ m := ne_sn hx hm'
  have hxu : x ≠ u := ne_sn hx hu'
  have hym : y ≠ m := ne_sn hy hm'
  have hyu : y ≠ u := ne_sn hy hu'
  have bx : ∀ {k}, k ≤ xs.length → k ≤ 2000 := fun h => Nat.le_trans h (Nat.le_trans lx (by decide))
  have by' : ∀ {k}, k ≤ ys.length → k ≤ 2000 := fun h => Nat.le_trans h (Nat.le_trans ly (by decide))
  refine while_go (fun n σ' => ∃ i j mi un, xs.length + ys.length - (i + j) = n ∧ i ≤ xs.length ∧ j ≤ ys.length ∧ mi.length ≤ i ∧ un.length ≤ j ∧ Mg xs ys i j mi un ∧ σ'.loc "expected" = some (.ref x) ∧ σ'.loc "actual" = some (.ref y) ∧ σ'.loc "i" = some (.int i) ∧ σ'.loc "j" = some (.int j) ∧ σ'.loc "missing" = some (.ref m) ∧ σ'.loc "unexpected" = some (.ref u) ∧
      σ'.heap = upd (upd σ.heap m (.list (mi.map .int))) u (.list (un.map .int))) _ ⟨0, 0, [], [], rfl, Nat.zero_le _, Nat.zero_le _, Nat.zero_le _, Nat.zero_le _, Mg.start xs ys, rfl, rfl, rfl, rfl, rfl, rfl, rfl⟩ ?_
  rintro P n ⟨ℓ, τ⟩ ⟨i, j, mi, un, hn, hi, hj, hmi, hun, hM, e1, e2, e3, e4, e5, e6, rfl⟩ hP
  simp only at e1 e2 e3 e4 e5 e6
  -- the handler
  have fin : ∀ (i j : Nat) mi un (ℓ : String → Option LV) (Qf : LF → LS → Prop), Mg xs ys i j mi un → mi.length ≤ xs.length → un.length ≤ ys.length → (xs.length ≤ i ∨ ys.length ≤ j) → ℓ "expected" = some (.ref x) → ℓ "actual" = some (.ref y) → ℓ "i" = some (.int i) → ℓ "j" = some (.int j) → ℓ "missing" = some (.ref m) → ℓ "unexpected" = some (.ref u) →
      (∀ ℓ' τ', ℓ' "missing" = some (.ref m) → ℓ' "unexpected" = some (.ref u) → Ext σ.heap τ' → τ' m = some (.list ((lessL xs ys).map .int)) → τ' u = some (.list ((lessL ys xs).map .int)) → Qf .brk ⟨ℓ', τ'⟩) →
      (pseq (pbind (pbind (pget "missing") fun a => pbind (pislist a) fun _ => pbind (pbind (pbind (pget "expected") fun a => pbind (pget "i") fun b => pfrom a b) fun a => pbind (pret []) fun as => pret (a :: as)) fun as => plextend a as) fun _ => pret .next)
        (pseq (pbind (pbind (pget "unexpected") fun a => pbind (pislist a) fun _ => pbind (pbind (pbind (pget "actual") fun a => pbind (pget "j") fun b => pfrom a b) fun a => pbind (pret []) fun as => pret (a :: as)) fun as => plextend a as) fun _ => pret .next)
        (pret .brk))) Qf noE ⟨ℓ, upd (upd σ.heap m (.list (mi.map .int))) u (.list (un.map .int))⟩ := by
    intro i j mi un ℓ Qf hM lm lu hd e1 e2 e3 e4 e5 e6 hK
    obtain ⟨d1, d2⟩ := hM.done hd
    have c1 : (lessL xs ys).length ≤ xs.length := List.length_filter_le _ _
    have c2 : (lessL ys xs).length ≤ ys.length := List.length_filter_le _ _
    repeat trivial
    intro f hf
    have hfm : m ≠ f := by rintro rfl; simp [upd, hmu] at hf
    have hfu : u ≠ f := by rintro rfl; simp [upd, hmu] at hf
    have hfσ : σ.heap f = none := by simpa [upd, hfm.symm, hfu.symm] using hf
    have hxf : x ≠ f := ne_sn hx hfσ
    have hyf : y ≠ f := ne_sn hy hfσ
    refine lextend_go (by infer_instance) (by infer_instance) ?_ ?_
    · rw [List.length_map, List.length_drop, List.length_map, Int.toNat_natCast, ← List.length_drop, ← List.length_append, d1]
      exact Nat.le_trans c1 (Nat.le_trans lx (by decide))
    repeat trivial
    intro g hg
    have hgm : m ≠ g := by rintro rfl; simp [upd, hmu] at hg
    have hgu : u ≠ g := by rintro rfl; simp [upd, hmu, hfu, hmu.symm] at hg
    have hgf : f ≠ g := by rintro rfl; simp [upd, hfm.symm] at hg
    have hgσ : σ.heap g = none := by simpa [upd, hgm.symm, hgu.symm, hgf.symm] using hg
    refine lextend_go (by infer_instance) (by infer_instance) ?_ ?_
    · rw [List.length_map, List.length_drop, List.length_map, Int.toNat_natCast, ← List.length_drop, ← List.length_append, d2]
      exact Nat.le_trans c2 (Nat.le_trans ly (by decide))
    refine hK _ _ e5 e6 ?_ ?_ ?_
    · exact (((((((Ext.rfl'.upd hm').upd hu').upd hfσ).upd hm').upd hgσ)).upd hu')
    · rw [← d1, List.map_append, List.map_drop]; simp only [Int.toNat_natCast]; infer_instance
    · rw [← d2, List.map_append, List.map_drop]; simp only [Int.toNat_natCast]; exact upd_same
  have aft : ∀ ℓ' τ', ℓ' "missing" = some (.ref m) → ℓ' "unexpected" = some (.ref u) → Ext σ.heap τ' → τ' m = some (.list ((lessL xs ys).map .int)) → τ' u = some (.list ((lessL ys xs).map .int)) →
      (pbind (pbind (pbind (pget "missing") fun a => pbind (pbind (pget "unexpected") fun a => pbind (pret []) fun as => pret (a :: as)) fun as => pret (a :: as)) ptuple) fun v => pret (LF.ret v)) (fun (fl : LF) (σ' : LS) => match fl with | .ret v => Q v ⟨σ.loc, σ'.heap⟩ | .next => Q .none ⟨σ.loc, σ'.heap⟩ | _ => False) noE ⟨ℓ', τ'⟩ := by
    intro ℓ' τ' a1 a2 a3 a4 a5
    repeat trivial
    exact hQ m u τ' hm' hu' hmu a3 a4 a5
  have h60 : (2000 : Int) < 2 ^ 60 := by decide
  repeat trivial
  refine item_go (by infer_instance) (Int.natCast_nonneg i) (i60 (bx hi)) ?_
  rw [List.getElem?_map, Int.toNat_natCast]
  by_cases hil : i < xs.length
  · rw [List.getElem?_eq_getElem hil]
    simp only [Option.map_some]
    repeat trivial
    refine item_go (by infer_instance) (Int.natCast_nonneg j) (i60 (by' hj)) ?_
    rw [List.getElem?_map, Int.toNat_natCast]
    by_cases hjl : j < ys.length
    · rw [List.getElem?_eq_getElem hjl]
      simp only [Option.map_some]
      repeat trivial
      have nx : ∀ h : i + 1 < xs.length, xs[i + 1] ≠ xs[i] := fun h => by have := drop_gt sx hil xs[i + 1] (List.mem_of_getElem? (i := 0) (by simp [List.getElem?_drop, h])); omega
      have ny : ∀ h : j + 1 < ys.length, ys[j + 1] ≠ ys[j] := fun h => by have := drop_gt sy hjl ys[j + 1] (List.mem_of_getElem? (i := 0) (by simp [List.getElem?_drop, h])); omega
      have hm1 : upd (upd (upd σ.heap m (.list (mi.map .int))) u (.list (un.map .int))) m (.list (mi.map .int ++ [.int xs[i]])) = upd (upd σ.heap m (.list ((mi ++ [xs[i]]).map .int))) u (.list (un.map .int)) := by
        rw [upd_comm hmu.symm, upd_upd]; simp
      have hu1 : upd (upd (upd σ.heap m (.list (mi.map .int))) u (.list (un.map .int))) u (.list (un.map .int ++ [.int ys[j]])) = upd (upd σ.heap m (.list (mi.map .int))) u (.list ((un ++ [ys[j]]).map .int)) := by
        rw [upd_upd]; simp
      refine if_both (fun h => ?_) (fun h => ?_)
      · have hlt : xs[i] < ys[j] := by simpa using h
        have hM' := hM.lt sx sy hil hjl hlt
        repeat trivial
        refine lappend_go (xs := mi.map .int) (by infer_instance) (by simp; unfold cap; omega) ?_
        simp only [LS.set, hm1]
        repeat trivial
        refine inner_go (x := x) (i := i + 1) (xs := xs) (e := xs[i]) e1 (by infer_instance) (by show some _ = some _; simp) (by omega) rfl nx ?_ ?_
        · intro hl
          exact hP _ _ (dec_of hn (Nat.add_lt_add_of_lt_of_le hil hj) (Nat.add_lt_add_right (Nat.lt_succ_self i) j)) ⟨i + 1, j, _, _, rfl, hil, hj, by rw [List.length_append]; exact Nat.succ_le_succ hmi, hun, hM', e1, e2, by show some _ = some _; simp, e4, e5, e6, rfl⟩
        · intro hl
          exact ⟨rfl, fin (i + 1) j _ _ _ _ hM' (by rw [List.length_append]; exact Nat.le_trans (Nat.succ_le_succ hmi) hil) (Nat.le_trans hun hj) (.inl (by first | assumption | exact Nat.le_of_not_lt (by assumption) | omega)) e1 e2 (by show some _ = some _; simp) e4 e5 e6 aft⟩
      have hge : ¬ xs[i] < ys[j] := by simpa using h
      repeat trivial
      refine if_both (fun h => ?_) (fun h => ?_)
      · have hlt : ys[j] < xs[i] := by simpa using h
        have hM' := (hM.swap.lt sy sx hjl hil hlt).swap
        repeat trivial
        refine lappend_go (xs := un.map .int) (by infer_instance) (by simp; unfold cap; omega) ?_
        simp only [LS.set, hu1]
        repeat trivial
        refine inner_go (x := y) (i := j + 1) (xs := ys) (e := ys[j]) e2 (by infer_instance) (by show some _ = some _; simp) (by omega) rfl ny ?_ ?_
        · intro hl
          exact hP _ _ (dec_of hn (Nat.add_lt_add_of_le_of_lt hi hjl) (Nat.lt_succ_self _)) ⟨i, j + 1, _, _, rfl, hi, hjl, hmi, by rw [List.length_append]; exact Nat.succ_le_succ hun, hM', e1, e2, e3, by show some _ = some _; simp, e5, e6, rfl⟩
        · intro hl
          exact ⟨rfl, fin i (j + 1) _ _ _ _ hM' (Nat.le_trans hmi hi) (by rw [List.length_append]; exact Nat.le_trans (Nat.succ_le_succ hun) hjl) (.inr (by first | assumption | exact Nat.le_of_not_lt (by assumption) | omega)) e1 e2 e3 (by show some _ = some _; simp) e5 e6 aft⟩
      · have heq : xs[i] = ys[j] := by have : ¬ ys[j] < xs[i] := by simpa using h
                                       omega
        have hM' := hM.eq sx sy hil hjl heq
        repeat trivial
        refine inner_go (x := x) (i := i + 1) (xs := xs) (e := xs[i]) e1 (by infer_instance) (by show some _ = some _; simp) (by omega) rfl nx ?_ ?_
        · intro hl
          repeat trivial
          refine inner_go (x := y) (i := j + 1) (xs := ys) (e := ys[j]) e2 (by infer_instance) (by show some _ = some _; simp) (by omega) rfl ny ?_ ?_
          · intro hl
            exact hP _ _ (dec_of hn (Nat.add_lt_add hil hjl) (Nat.add_lt_add (Nat.lt_succ_self i) (Nat.lt_succ_self j))) ⟨i + 1, j + 1, _, _, rfl, hil, hjl, Nat.le_succ_of_le hmi, Nat.le_succ_of_le hun, hM', e1, e2, by show some _ = some _; simp, by show some _ = some _; simp, e5, e6, rfl⟩
          · intro hl
            exact ⟨rfl, fin (i + 1) (j + 1) _ _ _ _ hM' (Nat.le_trans hmi hi) (Nat.le_trans hun hj) (.inr (by first | assumption | exact Nat.le_of_not_lt (by assumption) | omega)) e1 e2 (by show some _ = some _; simp) (by show some _ = some _; simp) e5 e6 aft⟩
        · intro hl
          refine ⟨rfl, ?_⟩
          repeat trivial
          refine inner_goH (x := y) (i := j + 1) (xs := ys) (e := ys[j]) e2 (by infer_instance) (by show some _ = some _; simp) (by omega) rfl ny ?_ ?_
          · intro hl2
            exact ⟨rfl, fin (i + 1) (j + 1) _ _ _ _ hM' (Nat.le_trans hmi hi) (Nat.le_trans hun hj) (.inl (by first | assumption | exact Nat.le_of_not_lt (by assumption) | omega)) e1 e2 (by show some _ = some _; simp) (by show some _ = some _; simp) e5 e6 aft⟩
          · intro hl2
            exact ⟨rfl, fin (i + 1) (j + 1) _ _ _ _ hM' (Nat.le_trans hmi hi) (Nat.le_trans hun hj) (.inr (by first | assumption | exact Nat.le_of_not_lt (by assumption) | omega)) e1 e2 (by show some _ = some _; simp) (by show some _ = some _; simp) e5 e6 aft⟩
    · rw [List.getElem?_eq_none (by omega)]
      exact ⟨rfl, fin i j mi un _ _ hM (Nat.le_trans hmi hi) (Nat.le_trans hun hj) (.inr (by first | assumption | exact Nat.le_of_not_lt (by assumption) | omega)) e1 e2 e3 e4 e5 e6 aft⟩
  · rw [List.getElem?_eq_none (by omega)]
    exact ⟨rfl, fin i j mi un _ _ hM (Nat.le_trans hmi hi) (Nat.le_trans hun hj) (.inl (by first | assumption | exact Nat.le_of_not_lt (by assumption) | omega)) e1 e2 e3 e4 e5 e6 aft⟩
end
section
abbrev SS (xs : List Int) : Prop := xs.Pairwise (· < ·)
theorem ss_nodup {xs : List Int} (h : SS xs) : xs.Nodup := h.imp fun h => Int.ne_of_lt h
theorem ss_of {xs : List Int} (h : xs.Pairwise (· ≤ ·)) (n : xs.Nodup) : SS xs := by
  induction xs with
  | nil => exact .nil
  | cons a xs ih =>
    rw [List.pairwise_cons] at h
    rw [List.nodup_cons] at n
    refine List.pairwise_cons.mpr ⟨fun b hb => ?_, ih h.2 n.2⟩
    have h1 := h.1 b hb
    have h2 : a ≠ b := fun z => n.1 (z ▸ hb)
    omega
theorem ss_ext : ∀ {xs ys : List Int}, SS xs → SS ys → (∀ a, a ∈ xs ↔ a ∈ ys) → xs = ys
  | [], [], _, _, _ => rfl
  | [], y :: ys, _, _, h => by have := (h y).mpr (.head _); simp at this
  | x :: xs, [], _, _, h => by have := (h x).mp (.head _); simp at this
  | x :: xs, y :: ys, h1, h2, h => by
    rw [SS, List.pairwise_cons] at h1 h2
    have e : x = y := by
      rcases List.mem_cons.mp ((h x).mp (.head _)) with z | z
      · exact z
      · rcases List.mem_cons.mp ((h y).mpr (.head _)) with w | w
        · exact w.symm
        · have a := h2.1 x z; have b := h1.1 y w; omega
    subst e
    congr 1
    refine ss_ext h1.2 h2.2 fun a => ⟨fun ha => ?_, fun ha => ?_⟩
    · rcases List.mem_cons.mp ((h a).mp (.tail _ ha)) with z | z
      · have := h1.1 a ha; omega
      · exact z
    · rcases List.mem_cons.mp ((h a).mpr (.tail _ ha)) with z | z
      · have := h2.1 a ha; omega
      · exact z
/-- numbers of jobs -/
abbrev Sm (xs : List Int) : Prop := ∀ a ∈ xs, 0 ≤ a ∧ a < 20
theorem ss_len {xs : List Int} (h : xs.Nodup) (b : Sm xs) : xs.length ≤ 20 := by
  have h1 : (xs.map Int.toNat).Nodup := by
    rw [List.Nodup, List.pairwise_map]
    refine List.Pairwise.imp_of_mem ?_ h
    intro a c ha hc hne z
    have := b a ha; have := b c hc; omega
  have h2 : (xs.map Int.toNat) ⊆ List.range 20 := by
    intro n hn
    obtain ⟨a, ha, rfl⟩ := List.mem_map.mp hn
    have := b a ha
    rw [List.mem_range]; omega
  have := h1.length_le_of_subset h2
  simpa using this
theorem mem_lessL {xs ys : List Int} {a : Int} : a ∈ lessL xs ys ↔ a ∈ xs ∧ a ∉ ys := by
  unfold lessL; rw [List.mem_filter]; simp
theorem ss_less {xs ys : List Int} (h : SS xs) : SS (lessL xs ys) := h.filter _
theorem join_step {W R js : List Int} (hW : SS W) (hR : SS R) (hp : js.Perm (W ++ lessL R W)) (hs : js.Pairwise (· ≤ ·)) : SS js ∧ ∀ a, a ∈ js ↔ a ∈ W ∨ a ∈ R := by
  refine ⟨ss_of hs ?_, fun a => ?_⟩
  · rw [hp.nodup_iff, List.nodup_append]
    refine ⟨ss_nodup hW, ss_nodup (ss_less hR), fun a ha b hb z => ?_⟩
    subst z
    exact (mem_lessL.mp hb).2 ha
  · rw [hp.mem_iff, List.mem_append, mem_lessL]
    constructor
    · rintro (h | h)
      · exact .inl h
      · exact .inr h.1
    · rintro (h | h)
      · exact .inl h
      · by_cases z : a ∈ W
        · exact .inl z
        · exact .inr ⟨h, z⟩

set_option maxHeartbeats 4000000 in
theorem C_joinedF {σ : LS} {r : Nat} {rws : List (Nat × List Int)} {Q : LV → LS → Prop} {E : LX → LS → Prop} (hr : σ.heap r = some (.list (rws.map fun p => .ref p.1))) (hp : ∀ p ∈ rws, σ.heap p.1 = some (.list (p.2.map .int)) ∧ SS p.2 ∧ Sm p.2)
    (hQ : ∀ w (τ : LH) W, σ.heap w = none → Ext σ.heap τ → τ w = some (.list (W.map .int)) → SS W → (∀ a, a ∈ W ↔ ∃ p ∈ rws, a ∈ p.2) → Q (.ref w) ⟨σ.loc, τ⟩) :
    P_law_joined ad2 [.ref r] Q E σ := by
  refine ⟨_, rfl, ?_⟩
  unfold B_law_joined
  trivial
  intro w0 hw0
  repeat trivial
  refine for_go (fun pre _ σ' => ∃ (w : Nat) (W : List Int), σ'.loc "whole" = some (.ref w) ∧ σ.heap w = none ∧ Ext σ.heap σ'.heap ∧ σ'.heap w = some (.list (W.map .int)) ∧ SS W ∧ (∀ a, a ∈ W ↔ ∃ p ∈ pre, a ∈ p.2)) rws ⟨w0, [], rfl, hw0, Ext.new hw0, upd_same, .nil, by simp⟩ ?_ ?_
  · rintro P pre ⟨x, R⟩ rest ⟨ℓ, τ⟩ he ⟨w, W, e1, kw, hE, hw, sW, mW⟩ hP
    simp only at e1 hE hw
    obtain ⟨hx, sR, bR⟩ := hp (x, R) (by rw [he]; simp)
    simp only at hx sR bR
    have bW : Sm W := fun a ha => by
      obtain ⟨p, hp1, hp2⟩ := (mW a).mp ha
      exact (hp p (by rw [he]; simp [hp1])).2.2 a hp2
    have lW := ss_len (ss_nodup sW) bW
    have lR := ss_len (ss_nodup sR) bR
    refine ⟨by infer_instance, ?_⟩
    repeat trivial
    refine C_sld (E := noE) (xs := W) (ys := R) (by infer_instance) (by infer_instance) sW sR (by omega) (by omega) ?_
    intro m u τ1 hm hu hmu hE1 hτm hτu
    repeat trivial
    have lD : (lessL R W).length ≤ R.length := List.length_filter_le _ _
    refine cat_go (xs := W.map .int) (ys := (lessL R W).map .int) (by exact hE1 _ _ hw) (by exact hτu) (by simp [cap]; omega) ?_
    intro d hd
    refine sorted_go (is := W ++ lessL R W) (by rw [List.map_append]; exact upd_same) (by simp; omega) ?_
    intro js hjp hjs f hf
    obtain ⟨sj, mj⟩ := join_step sW sR hjp hjs
    repeat trivial
    refine hP _ ⟨f, js, rfl, ((hE.tr hE1).tr (Ext.new hd)).none hf, ?_, upd_same, sj, fun a => ?_⟩
    · exact ((hE.tr hE1).tr (Ext.new hd)).tr (Ext.new hf)
    · rw [mj, mW]
      constructor
      · rintro (⟨p, h1, h2⟩ | h)
        · exact ⟨p, by simp [h1], h2⟩
        · exact ⟨(x, R), by simp, h⟩
      · rintro ⟨p, h1, h2⟩
        rcases List.mem_append.mp h1 with z | z
        · exact .inl ⟨p, z, h2⟩
        · rw [List.mem_singleton] at z; subst z; exact .inr h2
  · rintro ⟨ℓ, τ⟩ ⟨w, W, e1, kw, hE, hw, sW, mW⟩
    simp only at e1 hE hw
    refine ⟨by infer_instance, ?_⟩
    repeat trivial
    exact hQ w τ W kw hE hw sW mW
theorem C_joined {σ : LS} {r : Nat} {rws : List (Nat × List Int)} {Q : LV → LS → Prop} {E : LX → LS → Prop} (hr : σ.heap r = some (.list (rws.map fun p => .ref p.1))) (hp : ∀ p ∈ rws, σ.heap p.1 = some (.list (p.2.map .int)) ∧ SS p.2 ∧ Sm p.2)
    (hQ : ∀ w (τ : LH) W, Ext σ.heap τ → τ w = some (.list (W.map .int)) → SS W → (∀ a, a ∈ W ↔ ∃ p ∈ rws, a ∈ p.2) → Q (.ref w) ⟨σ.loc, τ⟩) :
    P_law_joined ad2 [.ref r] Q E σ := C_joinedF hr hp fun w τ W _ => hQ w τ W
end
section
/-- where a sorter's parts lie -/
structure Sr where
  t : Nat
  d : Nat
  nd : Nat
  ns : List Int
  info : Int → Nat
  idd : Int → Nat
  sl : Int → Nat
  rl : Option Nat
def Sr.Foot (S : Sr) (b : Nat) : Prop := b = S.t ∨ b = S.d ∨ b = S.nd ∨ S.rl = some b ∨ ∃ n ∈ S.ns, b = S.info n ∨ b = S.idd n ∨ b = S.sl n
def rlV : Option Nat → LV
  | none => .none
  | some a => .ref a
abbrev topAt (nd : Nat) (rl : Option Nat) (po nf : Int) : LO := .attrs [("_node2info", .ref nd), ("_ready_nodes", rlV rl), ("_npassedout", .int po), ("_nfinished", .int nf)]
abbrev nodeAt (ad2 : Ad) (d : Nat) (n p : Int) (l : Nat) : LO := .inst ad2.CN d [some (.int n), some (.int p), some (.ref l)]
structure Srt (ad2 : Ad) (τ : LH) (S : Sr) (np : Int → Int) (succ : Int → List Int) (rd : List Int) (po nf : Int) : Prop where
  t : τ S.t = some (.inst ad2.CT S.d [])
  d : τ S.d = some (topAt S.nd S.rl po nf)
  nd : ∃ ep, τ S.nd = some (.dict (S.ns.map fun n => (n, .ref (S.info n))) ep)
  info : ∀ n ∈ S.ns, τ (S.info n) = some (nodeAt ad2 (S.idd n) n (np n) (S.sl n))
  idd : ∀ n ∈ S.ns, τ (S.idd n) = some (.attrs [])
  sl : ∀ n ∈ S.ns, τ (S.sl n) = some (.list ((succ n).map .int))
  slinj : ∀ n ∈ S.ns, ∀ m ∈ S.ns, S.sl n = S.sl m → n = m
  nodup : S.ns.Nodup
  rl : ∀ a, S.rl = some a → τ a = some (.list (rd.map .int)) ∧ ∀ n ∈ S.ns, S.sl n ≠ a
section
variable {τ τ' : LH} {S S' : Sr} {np : Int → Int} {succ : Int → List Int} {rd : List Int} {po nf : Int}
theorem Srt.foot (h : Srt ad2 τ S np succ rd po nf) {b : Nat} (f : S.Foot b) : ∃ o, τ b = some o := by
  rcases f with rfl | rfl | rfl | f | ⟨n, hn, rfl | rfl | rfl⟩
  · exact ⟨_, h.t⟩
  · exact ⟨_, h.d⟩
  · obtain ⟨ep, e⟩ := h.nd; exact ⟨_, e⟩
  · exact ⟨_, (h.rl b f).1⟩
  · exact ⟨_, h.info n hn⟩
  · exact ⟨_, h.idd n hn⟩
  · exact ⟨_, h.sl n hn⟩
theorem Srt.same (h : Srt ad2 τ S np succ rd po nf) (k : ∀ b o, S.Foot b → τ b = some o → τ' b = some o) : Srt ad2 τ' S np succ rd po nf := by
  refine ⟨k _ _ (.inl rfl) h.t, k _ _ (.inr (.inl rfl)) h.d, ?_, fun n hn => k _ _ (.inr (.inr (.inr (.inr ⟨n, hn, .inl rfl⟩)))) (h.info n hn), fun n hn => k _ _ (.inr (.inr (.inr (.inr ⟨n, hn, .inr (.inl rfl)⟩)))) (h.idd n hn), fun n hn => k _ _ (.inr (.inr (.inr (.inr ⟨n, hn, .inr (.inr rfl)⟩)))) (h.sl n hn), h.slinj, h.nodup, fun a ha => ⟨k _ _ (.inr (.inr (.inr (.inl ha)))) (h.rl a ha).1, (h.rl a ha).2⟩⟩
  obtain ⟨ep, e⟩ := h.nd
  exact ⟨ep, k _ _ (.inr (.inr (.inl rfl))) e⟩
theorem Srt.ext (h : Srt ad2 τ S np succ rd po nf) (k : Ext τ τ') : Srt ad2 τ' S np succ rd po nf := h.same fun b o _ e => k b o e
theorem Srt.put (h : Srt ad2 τ S np succ rd po nf) {b : Nat} {o : LO} (k : ¬ S.Foot b) : Srt ad2 (upd τ b o) S np succ rd po nf :=
  h.same fun c o' f e => upd_ne (fun z => k (z ▸ f)) e
theorem Srt.inj (h : Srt ad2 τ S np succ rd po nf) {n m : Int} (hn : n ∈ S.ns) (hm : m ∈ S.ns) (e : S.info n = S.info m) : n = m := by
  have h1 := h.info n hn; have h2 := h.info m hm
  rw [e, h2] at h1
  simp only [nodeAt, Option.some.injEq, LO.inst.injEq, List.cons.injEq, LV.int.injEq] at h1
  exact h1.2.2.1.symm
theorem ne_oo {τ : LH} {a b : Nat} {o o' : LO} (h : τ a = some o) (k : τ b = some o') (n : o ≠ o') : a ≠ b := fun z => by
  subst z; rw [h] at k; exact n (Option.some.inj k)

theorem lookup_map {f : Int → LV} : ∀ {ns : List Int} {n : Int}, (ns.map fun n => (n, f n)).lookup n = if n ∈ ns then some (f n) else none
  | [], n => by simp
  | m :: ns, n => by
    simp only [List.map_cons, List.lookup_cons]
    by_cases e : n = m
    · subst e; simp
    · rw [beq_eq_false_iff_ne.mpr e]
      simp only [lookup_map]
      simp [e]
theorem dput_new {es : List (Int × LV)} {k : Int} {v : LV} (h : es.lookup k = none) : dput es k v = es ++ [(k, v)] := by
  unfold dput
  rw [if_neg]
  intro z
  obtain ⟨⟨a, b⟩, h1, h2⟩ := List.any_eq_true.mp z
  have h2 : a = k := by simpa using h2
  subst h2
  have := List.lookup_eq_none_iff.mp h _ h1
  simp at this
theorem Srt.setnp (h : Srt ad2 τ S np succ rd po nf) {n : Int} (hn : n ∈ S.ns) (v : Int) : Srt ad2 (upd τ (S.info n) (nodeAt ad2 (S.idd n) n v (S.sl n))) S (fun m => if m = n then v else np m) succ rd po nf := by
  have hi := h.info n hn
  obtain ⟨ep, hnd⟩ := h.nd
  refine ⟨upd_ne (ne_oo h.t hi (by simp)) h.t, upd_ne (ne_oo h.d hi (by simp)) h.d, ⟨ep, upd_ne (ne_oo hnd hi (by simp)) hnd⟩, fun m hm => ?_, fun m hm => upd_ne (ne_oo (h.idd m hm) hi (by simp)) (h.idd m hm), fun m hm => upd_ne (ne_oo (h.sl m hm) hi (by simp)) (h.sl m hm), h.slinj, h.nodup, fun a ha => ⟨upd_ne (ne_oo (h.rl a ha).1 hi (by simp)) (h.rl a ha).1, (h.rl a ha).2⟩⟩
  by_cases e : m = n
  · subst e; simp only [if_true]; exact upd_same
  · rw [if_neg e]; exact upd_ne (fun z => e (h.inj hm hn z)) (h.info m hm)
theorem Srt.setsl (h : Srt ad2 τ S np succ rd po nf) {n : Int} (hn : n ∈ S.ns) (l : List Int) : Srt ad2 (upd τ (S.sl n) (.list (l.map .int))) S np (fun m => if m = n then l else succ m) rd po nf := by
  have hi := h.sl n hn
  obtain ⟨ep, hnd⟩ := h.nd
  refine ⟨upd_ne (ne_oo h.t hi (by simp)) h.t, upd_ne (ne_oo h.d hi (by simp)) h.d, ⟨ep, upd_ne (ne_oo hnd hi (by simp)) hnd⟩, fun m hm => upd_ne (ne_oo (h.info m hm) hi (by simp)) (h.info m hm), fun m hm => upd_ne (ne_oo (h.idd m hm) hi (by simp)) (h.idd m hm), fun m hm => ?_, h.slinj, h.nodup, fun a ha => ⟨upd_ne (Ne.symm ((h.rl a ha).2 n hn)) (h.rl a ha).1, (h.rl a ha).2⟩⟩
  by_cases e : m = n
  · subst e; simp only [if_true]; exact upd_same
  · rw [if_neg e]; exact upd_ne (fun z => e (h.slinj m hm n hn z)) (h.sl m hm)
theorem Srt.setd (h : Srt ad2 τ S np succ rd po nf) (po' nf' : Int) : Srt ad2 (upd τ S.d (topAt S.nd S.rl po' nf')) S np succ rd po' nf' := by
  have hi := h.d
  obtain ⟨ep, hnd⟩ := h.nd
  exact ⟨upd_ne (ne_oo h.t hi (by simp)) h.t, upd_same, ⟨ep, upd_ne (ne_oo hnd hi (by simp)) hnd⟩, fun m hm => upd_ne (ne_oo (h.info m hm) hi (by simp)) (h.info m hm), fun m hm => upd_ne (ne_oo (h.idd m hm) hi (by simp)) (h.idd m hm), fun m hm => upd_ne (ne_oo (h.sl m hm) hi (by simp)) (h.sl m hm), h.slinj, h.nodup, fun a ha => ⟨upd_ne (ne_oo (h.rl a ha).1 hi (by simp)) (h.rl a ha).1, (h.rl a ha).2⟩⟩
theorem Srt.setrd (h : Srt ad2 τ S np succ rd po nf) {a : Nat} (ha : S.rl = some a) (l : List Int) : Srt ad2 (upd τ a (.list (l.map .int))) S np succ l po nf := by
  obtain ⟨hi, hne⟩ := h.rl a ha
  obtain ⟨ep, hnd⟩ := h.nd
  exact ⟨upd_ne (ne_oo h.t hi (by simp)) h.t, upd_ne (ne_oo h.d hi (by simp)) h.d, ⟨ep, upd_ne (ne_oo hnd hi (by simp)) hnd⟩, fun m hm => upd_ne (ne_oo (h.info m hm) hi (by simp)) (h.info m hm), fun m hm => upd_ne (ne_oo (h.idd m hm) hi (by simp)) (h.idd m hm), fun m hm => upd_ne (hne m hm) (h.sl m hm), h.slinj, h.nodup, fun b hb => by rw [ha] at hb; cases hb; exact ⟨upd_same, hne⟩⟩

/-- what stands outside a sorter stands on -/
def Fr (S : Sr) (τ τ' : LH) : Prop := ∀ b o, ¬ S.Foot b → τ b = some o → τ' b = some o
theorem Fr.rfl' : Fr S τ τ := fun _ _ _ h => h
theorem Fr.tr {τ'' : LH} (h : Fr S τ τ') (k : Fr S τ' τ'') : Fr S τ τ'' := fun b o f e => k b o f (h b o f e)
theorem Fr.upd {b : Nat} {o : LO} (f : S.Foot b) : Fr S τ (upd τ b o) := fun c o' nf e => upd_ne (fun z => nf (z ▸ f)) e
theorem Sr.Foot.info {n : Int} (hn : n ∈ S.ns) : S.Foot (S.info n) := .inr (.inr (.inr (.inr ⟨n, hn, .inl rfl⟩)))
theorem Sr.Foot.sl {n : Int} (hn : n ∈ S.ns) : S.Foot (S.sl n) := .inr (.inr (.inr (.inr ⟨n, hn, .inr (.inr rfl)⟩)))
theorem Sr.Foot.d : S.Foot S.d := .inr (.inl rfl)
theorem Sr.Foot.rl {a : Nat} (h : S.rl = some a) : S.Foot a := .inr (.inr (.inr (.inl h)))
/-- a sorter that has grown -/
structure Grow (K : LH) (S : Sr) (S' : Sr) : Prop where
  t : S'.t = S.t
  foot : ∀ b, S.Foot b → S'.Foot b
  out : (∀ b, S.Foot b → K b = none) → ∀ b, S'.Foot b → K b = none

set_option maxHeartbeats 4000000 in
theorem C_initN {σ : LS} {n : Int} {ai di : Nat} {Q : LV → LS → Prop} {E : LX → LS → Prop} (ha : σ.heap ai = some (.inst ad2.CN di [])) (hd : σ.heap di = some (.attrs []))
    (hQ : ∀ li, σ.heap li = none → Q .none ⟨σ.loc, upd (upd σ.heap ai (nodeAt ad2 di n 0 li)) li (.list [])⟩) :
    P_initN ad2 [.ref ai, .int n] Q E σ := by
  refine ⟨_, rfl, ?_⟩
  unfold B_initN
  have hne : di ≠ ai := ne_oo hd ha (by simp)
  repeat trivial
  intro li hli
  have hlia : li ≠ ai := by rintro rfl; simp [upd] at hli
  have hli' : σ.heap li = none := by simpa [upd, LS.set, hlia] using hli
  have hlid : li ≠ di := (ne_sn hd hli').symm
  repeat trivial
  refine Eq.mp (congrArg (Q .none) ?_) (hQ li hli')
  refine congrArg (LS.mk σ.loc) ?_
  funext b
  simp only [upd]
  by_cases z1 : b = ai
  · subst z1; simp [hlia.symm, sput]
  · by_cases z2 : b = li <;> simp [z1, z2, hlia]
end
end
section
section
variable {τ τ' : LH} {S S' : Sr} {np : Int → Int} {succ : Int → List Int} {rd : List Int} {po nf : Int}
set_option maxHeartbeats 4000000 in
theorem C_getinfo {σ : LS} {n : Int} {K : LH} {Q : LV → LS → Prop} {E : LX → LS → Prop} (h : Srt ad2 σ.heap S np succ rd po nf) (hK : Ext K σ.heap) (hO : ∀ b, S.Foot b → K b = none) (h0 : n ∉ S.ns → np n = 0 ∧ succ n = []) (hl : S.ns.length < 900)
    (hQ : ∀ S' τ', Srt ad2 τ' S' np succ rd po nf → Ext K τ' → (∀ b, S'.Foot b → K b = none) → S'.t = S.t → S'.rl = S.rl → S'.ns = (if n ∈ S.ns then S.ns else S.ns ++ [n]) → Q (.ref (S'.info n)) ⟨σ.loc, τ'⟩) :
    P_get_nodeinfo ad2 [.ref S.t, .int n] Q E σ := by
  refine ⟨_, rfl, ?_⟩
  unfold B_get_nodeinfo
  have ht := h.t
  have hd := h.d
  obtain ⟨ep, hnd⟩ := h.nd
  repeat trivial
  rw [lookup_map]
  by_cases hn : n ∈ S.ns
  · rw [if_pos hn, Option.getD_some]
    repeat trivial
    exact hQ S _ h hK hO rfl rfl (by rw [if_pos hn])
  · rw [if_neg hn, Option.getD_none]
    iterate 3 trivial
    intro di ai h1 hd0 ha0
    have hdi : σ.heap di = none := hd0
    have hai : σ.heap ai = none := ha0
    clear hd0 ha0
    refine C_initN (E := noE) (by exact upd_same) (by exact upd_ne h1 upd_same) fun li hl0 => ?_
    have h2 : li ≠ ai := by rintro rfl; simp [upd, LS.put] at hl0
    have h3 : li ≠ di := by rintro rfl; simp [upd, LS.put, h1] at hl0
    have hli : σ.heap li = none := by simpa [upd, LS.put, LS.set, h2, h3] using hl0
    clear hl0
    refine ⟨rfl, ?_⟩
    have e9 : upd (upd (((⟨bindLoc (["self", "node"].zip [LV.ref S.t, LV.int n]) fun x => none, σ.heap⟩ : LS).set "result" LV.none).put di (LO.attrs []) |>.put ai (LO.inst ad2.CN di [])).heap ai (nodeAt ad2 di n 0 li)) li (LO.list []) = upd (upd (upd σ.heap di (.attrs [])) ai (nodeAt ad2 di n 0 li)) li (.list []) := by
      funext b
      simp only [upd, LS.put, LS.set]
      by_cases z1 : b = ai <;> by_cases z2 : b = li <;> simp [z1, z2]
    rw [e9]
    have a1 : S.t ≠ ai := ne_sn ht hai
    have a2 : S.t ≠ di := ne_sn ht hdi
    have a3 : S.t ≠ li := ne_sn ht hli
    have b1 : S.d ≠ ai := ne_sn hd hai
    have b2 : S.d ≠ di := ne_sn hd hdi
    have b3 : S.d ≠ li := ne_sn hd hli
    have c1 : S.nd ≠ ai := ne_sn hnd hai
    have c2 : S.nd ≠ di := ne_sn hnd hdi
    have c3 : S.nd ≠ li := ne_sn hnd hli
    repeat trivial
    refine dset_go (by infer_instance) (by simp [cap]; omega) (fun ep' => ?_)
    repeat trivial
    rw [dput_new (by rw [lookup_map, if_neg hn])]
    have lo : ∀ b o, σ.heap b = some o → b ≠ S.nd → upd (upd (upd (upd σ.heap di (.attrs [])) ai (nodeAt ad2 di n 0 li)) li (.list [])) S.nd (.dict (S.ns.map (fun n => (n, LV.ref (S.info n))) ++ [(n, .ref ai)]) ep') b = some o := fun b o e hb =>
      upd_ne hb (upd_ne (ne_sn e hli) (upd_ne (ne_sn e hai) (upd_ne (ne_sn e hdi) e)))
    have q := hQ { S with ns := S.ns ++ [n], info := fun m => if m = n then ai else S.info m, idd := fun m => if m = n then di else S.idd m, sl := fun m => if m = n then li else S.sl m } (upd (upd (upd (upd σ.heap di (.attrs [])) ai (nodeAt ad2 di n 0 li)) li (.list [])) S.nd (.dict (S.ns.map (fun n => (n, LV.ref (S.info n))) ++ [(n, .ref ai)]) ep')) ?_ ?_ ?_ rfl rfl (by rw [if_neg hn])
    · simp only [if_true] at q; exact q
    · obtain ⟨n0, s0⟩ := h0 hn
      have hm : ∀ m ∈ S.ns, m ≠ n := fun m hm z => hn (z ▸ hm)
      refine ⟨lo _ _ ht (ne_oo ht hnd (by simp)), lo _ _ hd (ne_oo hd hnd (by simp)), ⟨ep', ?_⟩, fun m hm' => ?_, fun m hm' => ?_, fun m hm' => ?_, fun m hm' m' hm'' e => ?_, ?_, fun a ha => ⟨lo _ _ (h.rl a ha).1 (ne_oo (h.rl a ha).1 hnd (by simp)), fun m hm' => ?_⟩⟩
      · rw [upd_same]
        simp only [List.map_append, List.map_cons, List.map_nil, if_true]
        congr 3
        refine List.map_congr_left fun m hm' => ?_
        rw [if_neg (hm m hm')]
      · rcases List.mem_append.mp hm' with z | z
        · have := hm m z
          simp only [if_neg this]
          exact lo _ _ (h.info m z) (ne_oo (h.info m z) hnd (by simp))
        · rw [List.mem_singleton] at z; subst z
          simp only [if_true, n0]
          exact upd_ne c1.symm (upd_ne h2.symm upd_same)
      · rcases List.mem_append.mp hm' with z | z
        · have := hm m z
          simp only [if_neg this]
          exact lo _ _ (h.idd m z) (ne_oo (h.idd m z) hnd (by simp))
        · rw [List.mem_singleton] at z; subst z
          simp only [if_true, n0]
          exact upd_ne c2.symm (upd_ne h3.symm (upd_ne h1 upd_same))
      · rcases List.mem_append.mp hm' with z | z
        · have := hm m z
          simp only [if_neg this]
          exact lo _ _ (h.sl m z) (ne_oo (h.sl m z) hnd (by simp))
        · rw [List.mem_singleton] at z; subst z
          simp only [if_true, s0]
          exact upd_ne c3.symm upd_same
      · rcases List.mem_append.mp hm' with z | z <;> rcases List.mem_append.mp hm'' with y | y
        · simp only [if_neg (hm m z), if_neg (hm m' y)] at e
          exact h.slinj m z m' y e
        · rw [List.mem_singleton] at y; subst y
          simp only [if_neg (hm m z), if_true] at e
          exact absurd e (ne_sn (h.sl m z) hli)
        · rw [List.mem_singleton] at z; subst z
          simp only [if_neg (hm m' y), if_true] at e
          exact absurd e.symm (ne_sn (h.sl m' y) hli)
        · rw [List.mem_singleton] at z y; rw [z, y]
      · show (S.ns ++ [n]).Nodup
        rw [List.nodup_append]
        exact ⟨h.nodup, by simp, fun a ha b hb => by rw [List.mem_singleton] at hb; subst hb; exact hm a ha⟩
      · rcases List.mem_append.mp hm' with z | z
        · simp only [if_neg (hm m z)]; exact (h.rl a ha).2 m z
        · rw [List.mem_singleton] at z; subst z
          simp only [if_true]
          exact Ne.symm (ne_sn (h.rl a ha).1 hli)
    · exact (((hK.upd (hK.none hdi)).upd (hK.none hai)).upd (hK.none hli)).upd (hO _ (.inr (.inr (.inl rfl))))
    · intro b hb
      rcases hb with z | z | z | z | ⟨m, hm, z⟩
      · exact hO b (.inl z)
      · exact hO b (.inr (.inl z))
      · exact hO b (.inr (.inr (.inl z)))
      · exact hO b (.inr (.inr (.inr (.inl z))))
      · rcases List.mem_append.mp hm with y | y
        · have hmn : m ≠ n := fun z => hn (z ▸ y)
          simp only [if_neg hmn] at z
          exact hO b (.inr (.inr (.inr (.inr ⟨m, y, z⟩))))
        · rw [List.mem_singleton] at y; subst y
          simp only [if_true] at z
          rcases z with rfl | rfl | rfl
          · exact hK.none hai
          · exact hK.none hdi
          · exact hK.none hli
end
end
section
section
variable {τ τ' : LH} {S S' : Sr} {np : Int → Int} {succ : Int → List Int} {rd : List Int} {po nf : Int}
/-- a sorter that is being filled: K stands outside -/
structure Fill (ad2 : Ad) (K τ : LH) (S : Sr) (np : Int → Int) (succ : Int → List Int) : Prop where
  srt : Srt ad2 τ S np succ [] 0 0
  keep : Ext K τ
  out : ∀ b, S.Foot b → K b = none
  zero : ∀ m, m ∉ S.ns → np m = 0 ∧ succ m = []
  sm : Sm S.ns
  rl : S.rl = none
theorem Fill.len {K : LH} (h : Fill ad2 K τ S np succ) : S.ns.length ≤ 20 := ss_len h.srt.nodup h.sm

theorem sput1 {a b : Option LV} {c : LV} {v : LV} : sput [a, b, some c] 1 v = [a, some v, some c] := rfl

set_option maxHeartbeats 4000000 in
theorem C_add {σ : LS} {n : Int} {ps : List Int} {K : LH} {Q : LV → LS → Prop} {E : LX → LS → Prop} (h : Fill ad2 K σ.heap S np succ) (hn : 0 ≤ n ∧ n < 20) (hp : ps.Nodup) (hps : Sm ps) (hb : ∀ m, (succ m).length ≤ 1000)
    (hQ : ∀ S' τ', Fill ad2 K τ' S' (fun m => if m = n then np m + ps.length else np m) (fun m => if m ∈ ps then succ m ++ [n] else succ m) → S'.t = S.t → (∀ m, m ∈ S'.ns ↔ m ∈ S.ns ∨ m = n ∨ m ∈ ps) → Q .none ⟨σ.loc, τ'⟩) :
    P_add ad2 (.ref S.t :: .int n :: ps.map .int) Q E σ := by
  have hpl := ss_len hp hps
  refine ⟨[("self", .ref S.t), ("node", .int n), ("predecessors", .tup (ps.map .int))], ?_, ?_⟩
  · unfold bndV
    rw [if_pos (by simp [cap]; omega)]
    rfl
  unfold B_add
  have ht := h.srt.t
  have hd := h.srt.d
  simp only [topAt, rlV, h.rl] at hd
  have hl := h.len
  repeat trivial
  refine C_getinfo (E := noE) (K := K) h.srt h.keep h.out (fun z => h.zero n z) (by omega) ?_
  intro S1 τ1 h1 k1 o1 t1 r1 n1
  have hn1 : n ∈ S1.ns := by rw [n1]; split <;> simp_all
  have hm1 : ∀ m, m ∈ S1.ns ↔ m ∈ S.ns ∨ m = n := fun m => by
    rw [n1]; split
    · constructor
      · exact .inl
      · rintro (z | rfl)
        · exact z
        · assumption
    · simp
  have hi1 := h1.info n hn1
  have hdd1 := h1.idd n hn1
  repeat trivial
  refine lenT_go (by simp [cap]; omega) ?_
  repeat trivial
  simp only [sput1]
  repeat trivial
  refine titems_go (by simp [cap]; omega) ?_
  refine for_go (fun pre _ σ' => σ'.loc "self" = some (.ref S.t) ∧ σ'.loc "node" = some (.int n) ∧ ∃ S', Fill ad2 K σ'.heap S' (fun m => if m = n then np m + ps.length else np m) (fun m => if m ∈ pre then succ m ++ [n] else succ m) ∧ S'.t = S.t ∧ (∀ m, m ∈ S'.ns ↔ m ∈ S.ns ∨ m = n ∨ m ∈ pre)) ps ?_ ?_ ?_
  · refine ⟨rfl, rfl, S1, ⟨?_, ?_, o1, ?_, ?_, by rw [r1, h.rl]⟩, t1, by simpa using hm1⟩
    · have := h1.setnp hn1 (np n + ps.length)
      have e : (fun m => if m = n then np n + (ps.length : Int) else np m) = fun m => if m = n then np m + ps.length else np m := by
        funext m; by_cases z : m = n <;> simp [z]
      rw [e] at this
      simp only [List.not_mem_nil, if_false, List.length_map]
      exact this
    · exact k1.upd (o1 _ (.info hn1))
    · intro m hm
      have : m ∉ S.ns := fun z => hm ((hm1 m).mpr (.inl z))
      have hmn : m ≠ n := fun z => hm ((hm1 m).mpr (.inr z))
      simp [hmn, h.zero m this]
    · intro m hm
      rcases (hm1 m).mp hm with z | rfl
      · exact h.sm m z
      · exact hn
  · rintro P pre x rest ⟨ℓ, τ2⟩ he ⟨e1, e2, S2, h2, t2, m2⟩ hP
    simp only at e1 e2 h2
    have hx : x ∉ pre := fun z => by
      rw [he, List.nodup_append] at hp
      exact hp.2.2 x z x (.head _) rfl
    have hxs := hps x (by rw [he]; simp)
    refine ⟨True.intro, ?_⟩
    have ht2 := h2.srt.t
    have hd2 := h2.srt.d
    rw [← t2] at e1
    have hl2 := h2.len
    repeat trivial
    refine C_getinfo (E := noE) (K := K) (by exact h2.srt) (by exact h2.keep) h2.out (by exact fun z => h2.zero x z) (by omega) ?_
    intro S3 τ3 h3 k3 o3 t3 r3 n3
    have hx3 : x ∈ S3.ns := by rw [n3]; split <;> simp_all
    have hm3 : ∀ m, m ∈ S3.ns ↔ m ∈ S2.ns ∨ m = x := fun m => by
      rw [n3]; split
      · constructor
        · exact .inl
        · rintro (z | rfl)
          · exact z
          · assumption
      · simp
    have hi3 := h3.info x hx3
    have hdd3 := h3.idd x hx3
    have hs3 := h3.sl x hx3
    rw [if_neg hx] at hs3
    repeat trivial
    have hnz : x ∉ S2.ns → succ x = [] := fun z => by have := (h2.zero x z).2; rwa [if_neg hx] at this
    refine lappend_go (by infer_instance) ?_ ?_
    · have := hb x; simp [cap]; omega
    refine hP _ ⟨by rw [← t2]; exact e1, e2, S3, ⟨?_, ?_, o3, ?_, ?_, by rw [r3, h2.rl]⟩, t3.trans t2, fun m => ?_⟩
    · have := h3.setsl hx3 (succ x ++ [n])
      rw [List.map_append] at this
      refine Eq.mp (congrArg (fun f => Srt ad2 _ S3 _ f [] 0 0) ?_) this
      funext m
      by_cases z : m = x
      · subst z; simp
      · simp [z]
    · exact k3.upd (o3 _ (.sl hx3))
    · intro m hm
      have hm2 : m ∉ S2.ns := fun z => hm ((hm3 m).mpr (.inl z))
      have hmx : m ≠ x := fun z => hm ((hm3 m).mpr (.inr z))
      have := h2.zero m hm2
      simpa [hmx] using this
    · intro m hm
      rcases (hm3 m).mp hm with z | rfl
      · exact h2.sm m z
      · exact hxs
    · rw [hm3, m2]; simp [or_assoc]
  · rintro ⟨ℓ, τ2⟩ ⟨e1, e2, S2, h2, t2, m2⟩
    exact ⟨True.intro, hQ S2 τ2 h2 t2 m2⟩
end
end
section
/-- a graph in the heap: a dict of lists -/
def Gr (τ : LH) (g : Nat) (ks : List Int) (pr : Int → List Int) : Prop := ∃ (pa : Int → Nat) (ep : Nat), τ g = some (.dict (ks.map fun k => (k, .ref (pa k))) ep) ∧ ∀ k ∈ ks, τ (pa k) = some (.list ((pr k).map .int))
theorem Gr.ext {τ τ' : LH} {g : Nat} {ks : List Int} {pr : Int → List Int} (h : Gr τ g ks pr) (e : Ext τ τ') : Gr τ' g ks pr :=
  let ⟨pa, ep, a, b⟩ := h; ⟨pa, ep, e _ _ a, fun k hk => e _ _ (b k hk)⟩
structure GrOk (ks : List Int) (pr : Int → List Int) : Prop where
  nodup : ks.Nodup
  sm : Sm ks
  pn : ∀ k ∈ ks, (pr k).Nodup
  sub : ∀ k ∈ ks, ∀ p ∈ pr k, p ∈ ks
section
variable {τ τ' : LH} {S S' : Sr} {np : Int → Int} {succ : Int → List Int} {rd : List Int} {po nf : Int}
set_option maxHeartbeats 4000000 in
theorem C_T {σ : LS} {g d a : Nat} {ks : List Int} {pr : Int → List Int} {Q : LV → LS → Prop} {E : LX → LS → Prop} (hda : d ≠ a) (hd : σ.heap d = none) (ha : σ.heap a = none) (hg : Gr σ.heap g ks pr) (hk : GrOk ks pr)
    (hQ : ∀ S τ', Fill ad2 σ.heap τ' S (fun m => if m ∈ ks then (pr m).length else 0) (fun m => ks.filter fun k => (pr k).contains m) → (∀ m, m ∈ S.ns ↔ m ∈ ks) → S.t = a → Q .none ⟨σ.loc, τ'⟩) :
    P_initT ad2 [.ref a, .ref g] Q E ((σ.put d (.attrs [])).put a (.inst ad2.CT d [])) := by
  obtain ⟨pa, ep, hg1, hg2⟩ := hg
  have hgd : g ≠ d := ne_sn hg1 hd
  have hga : g ≠ a := ne_sn hg1 ha
  refine ⟨_, rfl, ?_⟩
  unfold B_initT
  trivial
  intro nd hnd
  have hna : nd ≠ a := by rintro rfl; simp [LS.put] at hnd
  have hnn : nd ≠ d := by rintro rfl; simp [LS.put, hda] at hnd
  have hnd' : σ.heap nd = none := by simpa [LS.put, hna, hnn] using hnd
  have hgn : g ≠ nd := ne_sn hg1 hnd'
  clear hnd
  repeat trivial
  rw [List.map_map]
  refine for_go (f := fun k => LV.tup [.int k, .ref (pa k)]) (fun pre _ σ' => σ'.loc "self" = some (.ref a) ∧ ∃ S, Fill ad2 σ.heap σ'.heap S (fun m => if m ∈ pre then (pr m).length else 0) (fun m => pre.filter fun k => (pr k).contains m) ∧ S.t = a ∧ (∀ m, m ∈ S.ns ↔ m ∈ pre ∨ ∃ k ∈ pre, m ∈ pr k)) ks ?_ ?_ ?_
  · refine ⟨rfl, ⟨a, d, nd, [], fun _ => 0, fun _ => 0, fun _ => 0, none⟩, ⟨⟨?_, ?_, ⟨0, ?_⟩, ?_, ?_, ?_, ?_, ?_, ?_⟩, ?_, ?_, ?_, ?_, rfl⟩, rfl, by simp⟩
    · exact upd_ne hda.symm (upd_ne hda.symm (upd_ne hda.symm (upd_ne hda.symm (upd_ne hna.symm upd_same))))
    · exact upd_same
    · exact upd_ne hnn (upd_ne hnn (upd_ne hnn (upd_ne hnn upd_same)))
    · intro n hn; exact absurd hn (by simp)
    · intro n hn; exact absurd hn (by simp)
    · intro n hn; exact absurd hn (by simp)
    · intro n hn; exact absurd hn (by simp)
    · exact List.nodup_nil
    · intro n hn; exact absurd hn (by simp)
    · exact (((((((Ext.rfl'.upd hd).upd ha).upd hnd').upd hd).upd hd).upd hd).upd hd)
    · intro b hb
      rcases hb with z | z | z | z | ⟨m, hm, z⟩
      · exact z ▸ ha
      · exact z ▸ hd
      · exact z ▸ hnd'
      · exact absurd z (by simp)
      · exact absurd hm (by simp)
    · intro m hm; simp
    · intro m hm; exact absurd hm (by simp)
  · rintro P pre x rest ⟨ℓ, τ2⟩ he ⟨e1, S2, h2, t2, m2⟩ hP
    simp only at e1 h2
    have hE := h2.keep
    have ht2 := h2.srt.t
    have hd2 := h2.srt.d
    have hx := hg2 x (by rw [he]; simp)
    refine ⟨by infer_instance, ?_⟩
    rw [← t2] at e1
    repeat trivial
    have hxk : x ∈ ks := by rw [he]; simp
    have hxp : x ∉ pre := fun z => by
      have := hk.nodup
      rw [he, List.nodup_append] at this
      exact this.2.2 x z x (.head _) rfl
    have hpl : pre.length ≤ 20 := by
      have h1 := ss_len hk.nodup hk.sm
      have h2 : ks.length = pre.length + (rest.length + 1) := by rw [he]; simp
      omega
    refine C_add (E := noE) (K := σ.heap) (by exact h2) (hk.sm x hxk) (hk.pn x hxk) (fun p hp => hk.sm p (hk.sub x hxk p hp)) (fun m => ?_) ?_
    · have := List.length_filter_le (fun k => (pr k).contains m) pre
      show (pre.filter fun k => (pr k).contains m).length ≤ 1000
      omega
    · intro S3 τ3 h3 t3 m3
      refine hP _ ⟨?_, S3, ?_, t3.trans t2, fun m => ?_⟩
      · rw [← t2]; exact e1
      · refine Eq.mp ?_ h3
        congr 1
        · funext m
          by_cases z : m = x
          · subst z; simp [hxp]
          · simp [z]
        · funext m
          rw [List.filter_append]
          by_cases z : m ∈ pr x
          · simp [z]
          · simp [z]
      · rw [m3, m2]
        constructor
        · rintro ((z | ⟨k, k1, k2⟩) | rfl | z)
          · exact .inl (by simp [z])
          · exact .inr ⟨k, by simp [k1], k2⟩
          · exact .inl (by simp)
          · exact .inr ⟨x, by simp, z⟩
        · rintro (z | ⟨k, k1, k2⟩)
          · rcases List.mem_append.mp z with y | y
            · exact .inl (.inl y)
            · exact .inr (.inl (by simpa using y))
          · rcases List.mem_append.mp k1 with y | y
            · exact .inl (.inr ⟨k, y, k2⟩)
            · have : k = x := by simpa using y
              subst this
              exact .inr (.inr k2)
  · rintro ⟨ℓ, τ2⟩ ⟨e1, S2, h2, t2, m2⟩
    simp only at e1 h2
    have hE := h2.keep
    refine ⟨by infer_instance, ?_⟩
    refine hQ S2 τ2 h2 (fun m => ?_) t2
    rw [m2]
    exact ⟨fun z => z.elim id fun ⟨k, k1, k2⟩ => hk.sub k k1 m k2, .inl⟩
end
end
section
/-- a frame of the search: node, its iterator, how far it has come -/
abbrev Fm := Int × Nat × Nat
/-- the search for a ring, on its way -/
structure DF (K : LH) (S : Sr) (r : Int → Nat) (st it se dk : Nat) (fr : List Fm) (Sn : Int → Bool) (τ : LH) : Prop where
  ext : Ext K τ
  hst : τ st = some (.list (fr.map fun f => .int f.1))
  hit : τ it = some (.list (fr.map fun f => .nxt f.2.1))
  hse : τ se = some (.set Sn (S.ns.filter Sn).length)
  hdk : ∃ es ep, τ dk = some (.dict es ep) ∧ es.map (·.1) = fr.map (·.1)
  fm : ∀ f ∈ fr, f.1 ∈ S.ns ∧ τ f.2.1 = some (.iter (S.sl f.1) f.2.2) ∧ K f.2.1 = none ∧ Sn f.1 = true
  nd : (fr.map (·.2.1)).Nodup
  inc : fr.Pairwise fun a b => r a.1 < r b.1
  k1 : K st = none
  k2 : K it = none
  k3 : K se = none
  k4 : K dk = none
  ne : st ≠ it
def mu (ns : List Int) (succ : Int → List Int) (fr : List Fm) (Sn : Int → Bool) : Nat := ((ns.filter fun n => !Sn n).map fun n => (succ n).length + 2).sum + (fr.map fun f => (succ f.1).length - f.2.2 + 1).sum
def dela (τ : LH) (a : Nat) : LH := fun b => if b = a then none else τ b
theorem dela_ne {τ : LH} {a b : Nat} {v : Option LO} (h : b ≠ a) (k : τ b = v) : dela τ a b = v := by simp [dela, h, k]
theorem sum_drop (g : Int → Nat) (p q : Int → Bool) (x : Int) : ∀ {ns : List Int}, ns.Nodup → x ∈ ns → p x = true → (∀ n, q n = (p n && decide (n ≠ x))) → ((ns.filter p).map g).sum = ((ns.filter q).map g).sum + g x
  | [], _, h, _, _ => by simp at h
  | n :: ns, hn, h, hp, hq => by
    rw [List.nodup_cons] at hn
    by_cases e : n = x
    · subst e
      have : ns.filter q = ns.filter p := List.filter_congr fun m hm => by
        rw [hq]; have : m ≠ n := fun z => hn.1 (z ▸ hm)
        simp [this]
      rw [List.filter_cons_of_pos hp, List.filter_cons_of_neg (by rw [hq]; simp), this]
      simp; omega
    · have hx : x ∈ ns := by simpa [Ne.symm e] using h
      have ih := sum_drop g p q x hn.2 hx hp hq
      have hqn : q n = p n := by rw [hq]; simp [e]
      cases hc : p n with
      | true =>
        rw [List.filter_cons_of_pos hc, List.filter_cons_of_pos (by rw [hqn, hc])]
        simp; omega
      | false =>
        rw [List.filter_cons_of_neg (by simp [hc]), List.filter_cons_of_neg (by simp [hqn, hc])]
        exact ih
theorem dlook {es : List (Int × LV)} {k : Int} : (es.lookup k).isSome = true ↔ k ∈ es.map (·.1) := by
  induction es with
  | nil => simp
  | cons a es ih =>
    obtain ⟨n, v⟩ := a
    rw [List.lookup_cons]
    by_cases e : k = n
    · subst e; simp
    · rw [beq_eq_false_iff_ne.mpr e]; simp [ih, e]
section
variable {K τ : LH} {S : Sr} {succ : Int → List Int} {r : Int → Nat} {st it se dk : Nat} {fr : List Fm} {Sn : Int → Bool}
theorem DF.push (h : DF K S r st it se dk fr Sn τ) (hnd : S.ns.Nodup) {x : Int} {d : Nat} (hx : x ∈ S.ns) (hs : Sn x = false) (hr : ∀ f ∈ fr, r f.1 < r x) {es : List (Int × LV)} {ep ep' : Nat} (he : τ dk = some (.dict es ep)) (hes : es.map (·.1) = fr.map (·.1)) {v : LV} (hd : τ d = none) :
    DF K S r st it se dk (fr ++ [(x, d, 0)]) (fun k' => Sn k' || decide (k' = x)) (upd (upd (upd (upd (upd τ se (.set (fun k' => Sn k' || decide (k' = x)) ((S.ns.filter Sn).length + 1))) d (.iter (S.sl x) 0)) it (.list (fr.map (fun f => LV.nxt f.2.1) ++ [.nxt d]))) dk (.dict (es ++ [(x, v)]) ep')) st (.list (fr.map (fun f => LV.int f.1) ++ [.int x]))) := by
  have a1 : st ≠ d := ne_sn h.hst hd
  have a2 : it ≠ d := ne_sn h.hit hd
  have a3 : se ≠ d := ne_sn h.hse hd
  have a4 : dk ≠ d := ne_sn he hd
  have b1 : se ≠ st := ne_oo h.hse h.hst (by simp)
  have b2 : se ≠ it := ne_oo h.hse h.hit (by simp)
  have b3 : se ≠ dk := ne_oo h.hse he (by simp)
  have b4 : dk ≠ st := ne_oo he h.hst (by simp)
  have b5 : dk ≠ it := ne_oo he h.hit (by simp)
  have kd : K d = none := h.ext.none hd
  refine ⟨?_, ?_, ?_, ?_, ⟨es ++ [(x, v)], ep', ?_, ?_⟩, ?_, ?_, ?_, h.k1, h.k2, h.k3, h.k4, h.ne⟩
  · exact (((((h.ext.upd h.k3).upd kd).upd h.k2).upd h.k4).upd h.k1)
  · rw [upd_same]; simp
  · rw [upd_ne h.ne.symm (upd_ne b5.symm upd_same)]; simp
  · rw [upd_ne b1 (upd_ne b3 (upd_ne b2 (upd_ne a3 upd_same)))]
    congr 2
    have := sum_drop (fun _ => 1) (fun k' => Sn k' || decide (k' = x)) Sn x hnd hx (by simp) (fun n => by
      by_cases e : n = x
      · subst e; simp [hs]
      · simp [e])
    simpa [List.map_const', List.sum_replicate_nat] using this.symm
  · exact upd_ne b4 upd_same
  · simp [hes]
  · intro f hf
    rcases List.mem_append.mp hf with z | z
    · obtain ⟨f1, f2, f3, f4⟩ := h.fm f z
      refine ⟨f1, ?_, f3, by simp [f4]⟩
      exact upd_ne (ne_oo f2 h.hst (by simp)) (upd_ne (ne_oo f2 he (by simp)) (upd_ne (ne_oo f2 h.hit (by simp)) (upd_ne (ne_sn f2 hd) (upd_ne (ne_oo f2 h.hse (by simp)) f2))))
    · rw [List.mem_singleton] at z; subst z
      refine ⟨hx, ?_, kd, by simp⟩
      exact upd_ne a1.symm (upd_ne a4.symm (upd_ne a2.symm upd_same))
  · rw [List.map_append, List.nodup_append]
    refine ⟨h.nd, by simp, fun a ha b hb => ?_⟩
    obtain ⟨f, hf, rfl⟩ := List.mem_map.mp ha
    have : b = d := by simpa using hb
    rw [this]; exact ne_sn (h.fm f hf).2.1 hd
  · rw [List.pairwise_append]
    exact ⟨h.inc, by simp, fun a ha b hb => by rw [List.mem_singleton] at hb; subst hb; exact hr a ha⟩
theorem mu_push {ns : List Int} (hnd : ns.Nodup) {x : Int} {d : Nat} (hx : x ∈ ns) (hs : Sn x = false) : mu ns succ (fr ++ [(x, d, 0)]) (fun k' => Sn k' || decide (k' = x)) < mu ns succ fr Sn := by
  unfold mu
  have := sum_drop (fun n => (succ n).length + 2) (fun n => !Sn n) (fun k' => !(Sn k' || decide (k' = x))) x hnd hx (by simp [hs]) (fun n => by simp)
  rw [this]
  simp
  omega
theorem DF.next {x : Int} {a p : Nat} (h : DF K S r st it se dk (fr ++ [(x, a, p)]) Sn τ) : DF K S r st it se dk (fr ++ [(x, a, p + 1)]) Sn (upd τ a (.iter (S.sl x) (p + 1))) := by
  obtain ⟨f1, f2, f3, f4⟩ := h.fm (x, a, p) (by simp)
  obtain ⟨es, ep, he, hes⟩ := h.hdk
  refine ⟨h.ext.upd f3, ?_, ?_, upd_ne (ne_oo h.hse f2 (by simp)) h.hse, ⟨es, ep, upd_ne (ne_oo he f2 (by simp)) he, by simpa using hes⟩, ?_, ?_, ?_, h.k1, h.k2, h.k3, h.k4, h.ne⟩
  · rw [upd_ne (ne_oo h.hst f2 (by simp)) h.hst]; simp
  · rw [upd_ne (ne_oo h.hit f2 (by simp)) h.hit]; simp
  · intro f hf
    rcases List.mem_append.mp hf with z | z
    · obtain ⟨g1, g2, g3, g4⟩ := h.fm f (by simp [z])
      refine ⟨g1, upd_ne ?_ g2, g3, g4⟩
      have := h.nd
      rw [List.map_append, List.nodup_append] at this
      exact this.2.2 _ (List.mem_map_of_mem z) a (by simp)
    · rw [List.mem_singleton] at z; subst z
      exact ⟨f1, upd_same, f3, f4⟩
  · simpa using h.nd
  · have := h.inc
    rw [List.pairwise_append] at this ⊢
    exact ⟨this.1, by simp, fun b hb c hc => by rw [List.mem_singleton] at hc; subst hc; exact this.2.2 b hb (x, a, p) (by simp)⟩
theorem mu_next {ns : List Int} {x : Int} {a p : Nat} (hp : p < (succ x).length) : mu ns succ (fr ++ [(x, a, p + 1)]) Sn < mu ns succ (fr ++ [(x, a, p)]) Sn := by
  unfold mu; simp; omega
theorem DF.pop {x : Int} {a p : Nat} (h : DF K S r st it se dk (fr ++ [(x, a, p)]) Sn τ) {es : List (Int × LV)} {ep ep' : Nat} (he : τ dk = some (.dict es ep)) (hes : es.map (·.1) = (fr ++ [(x, a, p)]).map (·.1)) :
    DF K S r st it se dk fr Sn (upd (upd (upd (dela τ a) st (.list (fr.map fun f => LV.int f.1))) dk (.dict (ddel es x) ep')) it (.list (fr.map fun f => LV.nxt f.2.1))) := by
  obtain ⟨f1, f2, f3, f4⟩ := h.fm (x, a, p) (by simp)
  have b1 : se ≠ st := ne_oo h.hse h.hst (by simp)
  have b2 : se ≠ it := ne_oo h.hse h.hit (by simp)
  have b3 : se ≠ dk := ne_oo h.hse he (by simp)
  have b4 : dk ≠ st := ne_oo he h.hst (by simp)
  have b5 : dk ≠ it := ne_oo he h.hit (by simp)
  have hinc := h.inc
  rw [List.pairwise_append] at hinc
  refine ⟨?_, upd_ne h.ne (upd_ne b4.symm upd_same), upd_same, upd_ne b2 (upd_ne b3 (upd_ne b1 (dela_ne (ne_oo h.hse f2 (by simp)) h.hse))), ⟨_, ep', upd_ne b5 upd_same, ?_⟩, ?_, ?_, hinc.1, h.k1, h.k2, h.k3, h.k4, h.ne⟩
  · refine (((?_ : Ext K (dela τ a)).upd h.k1).upd h.k4).upd h.k2
    intro b o e
    exact dela_ne (ne_sn e f3) (h.ext b o e)
  · have e1 : (ddel es x).map (·.1) = (es.map (·.1)).filter fun k => decide (k ≠ x) := by
      unfold ddel; rw [List.filter_map]; rfl
    rw [e1, hes, List.map_append, List.filter_append]
    simp only [List.map_cons, List.map_nil]
    rw [List.filter_eq_self.mpr, List.filter_eq_nil_iff.mpr, List.append_nil]
    · intro b hb; simp at hb; simp [hb]
    · intro b hb
      obtain ⟨f, hf, rfl⟩ := List.mem_map.mp hb
      have := hinc.2.2 f hf (x, a, p) (by simp)
      simp only [decide_eq_true_eq]
      intro z
      rw [z] at this
      exact absurd this (Nat.lt_irrefl _)
  · intro f hf
    obtain ⟨g1, g2, g3, g4⟩ := h.fm f (by simp [hf])
    refine ⟨g1, ?_, g3, g4⟩
    have hn := h.nd
    rw [List.map_append, List.nodup_append] at hn
    have hne : f.2.1 ≠ a := hn.2.2 _ (List.mem_map_of_mem hf) a (by simp)
    exact upd_ne (ne_oo g2 h.hit (by simp)) (upd_ne (ne_oo g2 he (by simp)) (upd_ne (ne_oo g2 h.hst (by simp)) (dela_ne hne g2)))
  · have := h.nd
    rw [List.map_append, List.nodup_append] at this
    exact this.1
theorem mu_pop {ns : List Int} {x : Int} {a p : Nat} : mu ns succ fr Sn < mu ns succ (fr ++ [(x, a, p)]) Sn := by
  unfold mu; simp
end
end
section
section
variable {K τ : LH} {S : Sr} {np : Int → Int} {succ : Int → List Int} {rd : List Int} {po nf : Int} {r : Int → Nat} {st it se dk : Nat}
def cycIn : PTx LF := (pwhile (pbind (pget "stack") ptruth) (fun Q E σ => (pseq
  (pbind (pbind (pbind (pget "itstack") fun a => pbind (pbind (pret (.int 1)) pneg) fun b => pllast a b) pnextc) fun v => pbind (pset "node" v) fun _ => pret .next)
  (pret .brk)) Q (fun x σ' => x.name = "StopIteration" ∧ (pseq
  (pbind (pget "node2stacki") fun a => pbind (pbind (pget "stack") fun a => pbind (pislist a) fun _ => pbind (pret []) fun as => plpop a as) fun b => pbind (pddel a b) fun _ => pret .next)
  (pbind (pbind (pget "itstack") fun a => pbind (pislist a) fun _ => pbind (pret []) fun as => plpop a as) fun _ => pret .next)) Q noE σ') σ) (pret .brk))
/-- the names of the search -/
structure CL (S : Sr) (st it se dk : Nat) (ℓ : String → Option LV) : Prop where
  n : ℓ "n2i" = some (.ref S.nd)
  s : ℓ "stack" = some (.ref st)
  i : ℓ "itstack" = some (.ref it)
  e : ℓ "seen" = some (.ref se)
  d : ℓ "node2stacki" = some (.ref dk)
set_option maxHeartbeats 4000000 in
theorem cyc_in {fr : List Fm} {Sn : Int → Bool} {ℓ : String → Option LV} {QI : LF → LS → Prop} (h : Srt ad2 K S np succ rd po nf) (hr : ∀ n ∈ S.ns, ∀ m ∈ succ n, m ∈ S.ns ∧ r n < r m) (hc : CL S st it se dk ℓ) (hf : DF K S r st it se dk fr Sn τ)
    (q1 : ∀ ℓ' τ' fr' x, CL S st it se dk ℓ' → ℓ' "node" = some (.int x) → DF K S r st it se dk fr' Sn τ' → x ∈ S.ns → (∀ f ∈ fr', r f.1 < r x) → mu S.ns succ fr' Sn < mu S.ns succ fr Sn → QI .next ⟨ℓ', τ'⟩)
    (q2 : ∀ ℓ' τ', CL S st it se dk ℓ' → DF K S r st it se dk [] Sn τ' → QI .brk ⟨ℓ', τ'⟩) : cycIn QI noE ⟨ℓ, τ⟩ := by
  unfold cycIn
  refine while_go (fun n σ' => ∃ fr', fr'.length = n ∧ mu S.ns succ fr' Sn ≤ mu S.ns succ fr Sn ∧ CL S st it se dk σ'.loc ∧ DF K S r st it se dk fr' Sn σ'.heap) _ ⟨fr, rfl, Nat.le_refl _, hc, hf⟩ ?_
  rintro P n ⟨ℓ', τ'⟩ ⟨fr', hn, hmu, hc', hf'⟩ hP
  simp only at hc' hf'
  obtain ⟨c1, c2, c3, c4, c5⟩ := hc'
  have hst := hf'.hst
  have hit := hf'.hit
  obtain ⟨es, ep, he, hes⟩ := hf'.hdk
  repeat trivial
  rcases List.eq_nil_or_concat fr' with rfl | ⟨fr'', ⟨x, a, p⟩, rfl⟩
  · exact q2 _ _ ⟨c1, c2, c3, c4, c5⟩ hf'
  · rw [List.concat_eq_append] at *
    refine if_true' (by simp) ?_
    obtain ⟨f1, f2, f3, f4⟩ := hf'.fm (x, a, p) (by simp)
    simp only at f1 f2
    have hsl := hf'.ext _ _ (h.sl x f1)
    repeat trivial
    refine llast_go (v := .nxt a) hit (by simp) ?_
    refine nextc_go f2 hsl ?_
    rw [List.getElem?_map]
    by_cases hp : p < (succ x).length
    · rw [List.getElem?_eq_getElem hp]
      obtain ⟨m1, m2⟩ := hr x f1 (succ x)[p] (List.getElem_mem hp)
      refine q1 _ _ (fr'' ++ [(x, a, p + 1)]) (succ x)[p] ⟨c1, c2, c3, c4, c5⟩ rfl hf'.next m1 (fun f hf => ?_) ?_
      · rcases List.mem_append.mp hf with z | z
        · have := hf'.inc
          rw [List.pairwise_append] at this
          have := this.2.2 f z (x, a, p) (by simp)
          simp only at this
          omega
        · rw [List.mem_singleton] at z; subst z; exact m2
      · have := mu_next (ns := S.ns) (fr := fr'') (Sn := Sn) (a := a) hp
        omega
    · rw [List.getElem?_eq_none (by omega)]
      refine ⟨rfl, ?_⟩
      have hst' : (LS.del ⟨ℓ', τ'⟩ a).heap st = some (.list ((fr'' ++ [(x, a, p)]).map fun f => .int f.1)) := dela_ne (ne_oo hst f2 (by simp)) hst
      have hit' : (LS.del ⟨ℓ', τ'⟩ a).heap it = some (.list ((fr'' ++ [(x, a, p)]).map fun f => .nxt f.2.1)) := dela_ne (ne_oo hit f2 (by simp)) hit
      have he' : (LS.del ⟨ℓ', τ'⟩ a).heap dk = some (.dict es ep) := dela_ne (ne_oo he f2 (by simp)) he
      have d1 : dk ≠ st := ne_oo he hst (by simp)
      have d2 : dk ≠ it := ne_oo he hit (by simp)
      have d3 := hf'.ne
      repeat trivial
      refine lpop_go (v := .int x) hst' (by simp) ?_
      refine ddel_go (ep := ep) (es := es) (by exact upd_ne d1 he') (dlook.mpr (by rw [hes]; simp)) (fun ep' => ?_)
      repeat trivial
      refine lpop_go (v := .nxt a) (by exact upd_ne d2.symm (upd_ne d3.symm hit')) (by simp) ?_
      have hpop := hf'.pop he hes (ep' := ep')
      refine hP _ _ ?_ ⟨fr'', rfl, ?_, ⟨c1, c2, c3, c4, c5⟩, ?_⟩
      · simp at hn; omega
      · have := mu_pop (ns := S.ns) (succ := succ) (fr := fr'') (Sn := Sn) (x := x) (a := a) (p := p); omega
      · simp only [List.map_append, List.map_cons, List.map_nil, List.dropLast_concat]
        exact hpop
end
end
section
section
variable {K τ : LH} {S : Sr} {np : Int → Int} {succ : Int → List Int} {rd : List Int} {po nf : Int} {r : Int → Nat} {st it se dk : Nat}
set_option maxHeartbeats 4000000 in
theorem C_find_cycle {σ : LS} {Q : LV → LS → Prop} {E : LX → LS → Prop} (h : Srt ad2 σ.heap S np succ rd po nf) (hsm : Sm S.ns) (hr : ∀ n ∈ S.ns, ∀ m ∈ succ n, m ∈ S.ns ∧ r n < r m)
    (hQ : ∀ τ', Ext σ.heap τ' → Q .none ⟨σ.loc, τ'⟩) : P_find_cycle ad2 [.ref S.t] Q E σ := by
  refine ⟨_, rfl, ?_⟩
  unfold B_find_cycle
  have ht := h.t
  have hd := h.d
  obtain ⟨epn, hn⟩ := h.nd
  have hlen := ss_len h.nodup hsm
  repeat trivial
  intro st hst
  repeat trivial
  intro it hit
  repeat trivial
  intro se hse
  repeat trivial
  intro dk hdk
  have k1 : σ.heap st = none := hst
  have n1 : it ≠ st := by rintro rfl; simp [LS.set, upd] at hit
  have k2 : σ.heap it = none := by simpa [LS.set, upd, n1] using hit
  have n2 : se ≠ st := by rintro rfl; simp [LS.set, upd, n1.symm] at hse
  have n3 : se ≠ it := by rintro rfl; simp [LS.set, upd] at hse
  have k3 : σ.heap se = none := by simpa [LS.set, upd, n2, n3] using hse
  have n4 : dk ≠ st := by rintro rfl; simp [LS.set, upd, n1.symm, n2.symm] at hdk
  have n5 : dk ≠ it := by rintro rfl; simp [LS.set, upd, n3.symm] at hdk
  have n6 : dk ≠ se := by rintro rfl; simp [LS.set, upd] at hdk
  have k4 : σ.heap dk = none := by simpa [LS.set, upd, n4, n5, n6] using hdk
  clear hst hit hse hdk
  have e1 : S.nd ≠ st := ne_sn hn k1
  have e2 : S.nd ≠ it := ne_sn hn k2
  have e3 : S.nd ≠ se := ne_sn hn k3
  have e4 : S.nd ≠ dk := ne_sn hn k4
  repeat trivial
  rw [List.map_map]
  refine for_go (f := fun n => LV.int n) (fun pre _ σ' => CL S st it se dk σ'.loc ∧ ∃ Sn, DF σ.heap S r st it se dk [] Sn σ'.heap) S.ns ?_ ?_ ?_
  · refine ⟨⟨rfl, rfl, rfl, rfl, rfl⟩, fun _ => false, ⟨(((Ext.rfl'.upd k1).upd k2).upd k3).upd k4, ?_, ?_, ?_, ⟨[], 0, upd_same, rfl⟩, ?_, ?_, ?_, k1, k2, k3, k4, n1.symm⟩⟩
    · exact upd_ne n4.symm (upd_ne n2.symm (upd_ne n1.symm upd_same))
    · exact upd_ne n5.symm (upd_ne n3.symm upd_same)
    · refine upd_ne n6.symm (upd_same.trans ?_)
      rw [List.filter_eq_nil_iff.mpr (by simp)]; rfl
    · intro f hf; simp at hf
    · simp
    · exact .nil
  · rintro P pre x rest ⟨ℓ, τ⟩ hx ⟨⟨c1, c2, c3, c4, c5⟩, Sn, hf⟩ hP
    simp only at c1 c2 c3 c4 c5 hf
    have hxn : x ∈ S.ns := by rw [hx]; simp
    refine ⟨hf.ext _ _ hn, ?_⟩
    have hse := hf.hse
    repeat trivial
    refine if_both (fun hs => ?_) (fun hs => ?_)
    · exact hP _ ⟨⟨c1, c2, c3, c4, c5⟩, Sn, hf⟩
    · refine while_go (fun n σ' => ∃ fr Sn x, mu S.ns succ fr Sn = n ∧ CL S st it se dk σ'.loc ∧ σ'.loc "node" = some (.int x) ∧ x ∈ S.ns ∧ (∀ f ∈ fr, r f.1 < r x) ∧ DF σ.heap S r st it se dk fr Sn σ'.heap) _ ⟨[], Sn, x, rfl, ⟨c1, c2, c3, c4, c5⟩, rfl, hxn, by simp, hf⟩ ?_
      clear hf hs hse
      rintro P2 n ⟨ℓ2, τ2⟩ ⟨fr, Sn2, y, hn2, ⟨c1, c2, c3, c4, c5⟩, ey, hy, hry, hf⟩ hP2
      simp only at c1 c2 c3 c4 c5 hf ey
      have hse := hf.hse
      have hst := hf.hst
      have hit := hf.hit
      obtain ⟨es, ep, he, hes⟩ := hf.hdk
      repeat trivial
      refine if_both (fun hs => ?_) (fun hs => ?_)
      · repeat trivial
        refine if_false' ?_ ?_
        · rw [Bool.eq_false_iff]
          intro z
          rw [dlook, hes] at z
          obtain ⟨f, h1, h2⟩ := List.mem_map.mp z
          have := hry f h1
          rw [h2] at this
          omega
        · refine cyc_in h hr ⟨c1, c2, c3, c4, c5⟩ hf ?_ ?_
          · intro ℓ' τ' fr' z d1 d2 d3 d4 d5 d6
            exact hP2 _ _ (hn2 ▸ d6) ⟨fr', Sn2, z, rfl, d1, d2, d4, d5, d3⟩
          · intro ℓ' τ' d1 d2
            exact hP _ ⟨d1, Sn2, d2⟩
      · have hE := hf.ext
        have hi := hE _ _ (h.info y hy)
        have hid := hE _ _ (h.idd y hy)
        have hsl := hE _ _ (h.sl y hy)
        have hnE := hE _ _ hn
        repeat trivial
        refine sadd_go hse ?_ ?_
        · have := List.length_filter_le Sn2 S.ns; omega
        rw [hs]
        have g1 : it ≠ se := ne_oo hit hse (by simp)
        have g2 : st ≠ se := ne_oo hst hse (by simp)
        have g3 : dk ≠ se := ne_oo he hse (by simp)
        have g4 : S.info y ≠ se := ne_oo hi hse (by simp)
        have g5 : S.idd y ≠ se := ne_oo hid hse (by simp)
        have g6 : S.sl y ≠ se := ne_oo hsl hse (by simp)
        have lk : (S.ns.map fun n => (n, LV.ref (S.info n))).lookup y = some (.ref (S.info y)) := by rw [lookup_map, if_pos hy]
        repeat trivial
        intro d hdd
        have hd2 : d ≠ se := by rintro rfl; simp [upd] at hdd
        have hd3 : τ2 d = none := by simpa [upd, hd2] using hdd
        have j1 : it ≠ d := ne_sn hit hd3
        have j2 : st ≠ d := ne_sn hst hd3
        have j3 : dk ≠ d := ne_sn he hd3
        repeat trivial
        have hfl : fr.length ≤ 20 := by
          have : (fr.map (·.1)).Nodup := by
            rw [List.Nodup, List.pairwise_map]
            exact hf.inc.imp fun {a b} h z => by rw [z] at h; omega
          have := ss_len this (fun a ha => by
            obtain ⟨f, f1, rfl⟩ := List.mem_map.mp ha
            exact hsm _ (hf.fm f f1).1)
          simpa using this
        refine lappend_go (by infer_instance) (by simp [cap]; omega) ?_
        repeat trivial
        refine dset_go (by infer_instance) ?_ (fun ep' => ?_)
        · have := congrArg List.length hes
          simp at this
          simp [cap]; omega
        have hyn : es.lookup y = none := by
          cases hz : es.lookup y with
          | none => rfl
          | some v =>
            have : y ∈ es.map (·.1) := dlook.mp (by rw [hz]; rfl)
            rw [hes] at this
            obtain ⟨f, f1, f2⟩ := List.mem_map.mp this
            have := hry f f1
            rw [f2] at this; omega
        rw [dput_new hyn]
        have n7 : st ≠ it := n1.symm
        have n8 : st ≠ dk := n4.symm
        repeat trivial
        refine lappend_go (xs := fr.map fun f => .int f.1) (by infer_instance) (by simp [cap]; omega) ?_
        have hpush := hf.push h.nodup hy hs hry he hes (v := .int (fr.map fun f => LV.int f.1).length) (ep' := ep') hd3
        have hmu := mu_push (succ := succ) (fr := fr) (d := d) h.nodup hy hs
        refine cyc_in h hr ⟨c1, c2, c3, c4, c5⟩ hpush ?_ ?_
        · intro ℓ' τ' fr' z d1 d2 d3 d4 d5 d6
          exact hP2 _ _ (by omega) ⟨fr', _, z, rfl, d1, d2, d4, d5, d3⟩
        · intro ℓ' τ' d1 d2
          exact hP _ ⟨d1, _, d2⟩
  · rintro ⟨ℓ, τ⟩ ⟨c, Sn, hf⟩
    simp only at hf
    refine ⟨hf.ext _ _ hn, ?_⟩
    repeat trivial
    exact hQ _ hf.ext
end
end
section
/-- what a node's counter holds: O handed out, D done -/
def npOf (pr : Int → List Int) (O D : List Int) (n : Int) : Int := if n ∈ D then -2 else if n ∈ O then -1 else (((pr n).filter fun p => !D.contains p).length : Nat)
def scOf (ks : List Int) (pr : Int → List Int) (m : Int) : List Int := ks.filter fun k => (pr k).contains m
/-- a sorter at work -/
structure Sor (ad2 : Ad) (τ : LH) (S : Sr) (ks : List Int) (pr : Int → List Int) (O D rd : List Int) : Prop where
  srt : Srt ad2 τ S (npOf pr O D) (scOf ks pr) rd O.length D.length
  mem : ∀ m, m ∈ S.ns ↔ m ∈ ks
  rl : ∃ a, S.rl = some a
  rdn : rd.Nodup
  rdm : ∀ n, n ∈ rd ↔ n ∈ ks ∧ n ∉ O ∧ ∀ p ∈ pr n, p ∈ D
  od : O.Nodup
  dd : D.Nodup
  dO : ∀ n ∈ D, n ∈ O
  ok : ∀ n ∈ O, n ∈ ks
  op : ∀ n ∈ O, ∀ p ∈ pr n, p ∈ D
section
variable {K τ τ' : LH} {S : Sr} {ks : List Int} {pr : Int → List Int} {O D rd : List Int} {np np' : Int → Int} {succ succ' : Int → List Int} {po nf : Int} {r : Int → Nat}
theorem Srt.congr (h : Srt ad2 τ S np succ rd po nf) (e : ∀ n ∈ S.ns, np n = np' n) (e2 : ∀ n ∈ S.ns, succ n = succ' n) : Srt ad2 τ S np' succ' rd po nf :=
  ⟨h.t, h.d, h.nd, fun n hn => by rw [← e n hn]; exact h.info n hn, h.idd, fun n hn => by rw [← e2 n hn]; exact h.sl n hn, h.slinj, h.nodup, h.rl⟩
theorem Sor.ext (h : Sor ad2 τ S ks pr O D rd) (k : Ext τ τ') : Sor ad2 τ' S ks pr O D rd := ⟨h.srt.ext k, h.mem, h.rl, h.rdn, h.rdm, h.od, h.dd, h.dO, h.ok, h.op⟩
theorem Sor.put (h : Sor ad2 τ S ks pr O D rd) {b : Nat} {o : LO} (k : ¬ S.Foot b) : Sor ad2 (upd τ b o) S ks pr O D rd := ⟨h.srt.put k, h.mem, h.rl, h.rdn, h.rdm, h.od, h.dd, h.dO, h.ok, h.op⟩
theorem Sor.foot (h : Sor ad2 τ S ks pr O D rd) {b : Nat} (k : τ b = none) : ¬ S.Foot b := fun f => by
  obtain ⟨o, e⟩ := h.srt.foot f; rw [k] at e; cases e

set_option maxHeartbeats 4000000 in
theorem C_prepare {σ : LS} {Q : LV → LS → Prop} {E : LX → LS → Prop} (hF : Fill ad2 K σ.heap S (fun m => if m ∈ ks then (pr m).length else 0) (fun m => ks.filter fun k => (pr k).contains m)) (hm : ∀ m, m ∈ S.ns ↔ m ∈ ks) (hk : GrOk ks pr) (hr : ∀ k ∈ ks, ∀ p ∈ pr k, r p < r k)
    (hQ : ∀ S' τ' rd, Sor ad2 τ' S' ks pr [] [] rd → Ext K τ' → (∀ b, S'.Foot b → K b = none) → S'.t = S.t → Q .none ⟨σ.loc, τ'⟩) : P_prepare ad2 [.ref S.t] Q E σ := by
  refine ⟨_, rfl, ?_⟩
  unfold B_prepare
  have ht := hF.srt.t
  have hd := hF.srt.d
  simp only [topAt, rlV, hF.rl] at hd
  obtain ⟨epn, hn⟩ := hF.srt.nd
  have hlen := hF.len
  repeat trivial
  intro D hD
  have hD' : σ.heap D = none := hD
  rw [List.map_map]
  have dt : S.t ≠ D := ne_sn ht hD'
  have ddd : S.d ≠ D := ne_sn hd hD'
  have dn : S.nd ≠ D := ne_sn hn hD'
  have hm' : ∀ m ∈ S.ns, m ∈ ks := fun m h => (hm m).mp h
  refine comp_go (f := fun n => LV.ref (S.info n)) (fun n => decide ((pr n).length = 0)) (fun n => .int n) (by unfold cap; omega) (fun ℓ' acc => by exact upd_ne dn hn) (fun n hn acc ℓ' hℓ => ?_) ?_
  · have hi := hF.srt.info n hn
    have hid := hF.srt.idd n hn
    rw [if_pos (hm' n hn)] at hi
    have a1 : S.info n ≠ D := ne_sn hi hD'
    have a2 : S.idd n ≠ D := ne_sn hid hD'
    refine ⟨fun y => if y = "i" then some (.ref (S.info n)) else ℓ' y, fun y hy => ?_, fun K h => h, fun K h => ?_, fun hc K h => ?_⟩
    · by_cases z : y = "i"
      · subst z; simp at hy
      · simp only [if_neg z]; exact hℓ y hy
    · repeat trivial
      have e : (((pr n).length : Int) == 0) = decide ((pr n).length = 0) := by
        rw [Bool.eq_iff_iff]; simp
      rw [e]; exact h
    · repeat trivial
  repeat trivial
  simp only [fput, String.reduceEq, if_false, if_true]
  have hs1 : Srt ad2 (upd (upd σ.heap D (.list ((S.ns.filter fun n => decide ((pr n).length = 0)).map fun n => LV.int n))) S.d (topAt S.nd (some D) 0 0)) { S with rl := some D } (fun m => if m ∈ ks then (pr m).length else 0) (fun m => ks.filter fun k => (pr k).contains m) (S.ns.filter fun n => decide ((pr n).length = 0)) 0 0 := by
    have h0 := hF.srt
    have lo : ∀ b o, σ.heap b = some o → b ≠ S.d → upd (upd σ.heap D (.list ((S.ns.filter fun n => decide ((pr n).length = 0)).map fun n => LV.int n))) S.d (topAt S.nd (some D) 0 0) b = some o := fun b o e hb => upd_ne hb (upd_ne (ne_sn e hD') e)
    refine ⟨lo _ _ h0.t (ne_oo h0.t h0.d (by simp)), upd_same, ⟨epn, lo _ _ hn (ne_oo hn h0.d (by simp))⟩, fun n hn => lo _ _ (h0.info n hn) (ne_oo (h0.info n hn) h0.d (by simp)), fun n hn => lo _ _ (h0.idd n hn) (ne_oo (h0.idd n hn) h0.d (by simp)), fun n hn => lo _ _ (h0.sl n hn) (ne_oo (h0.sl n hn) h0.d (by simp)), h0.slinj, h0.nodup, fun a ha => ?_⟩
    cases ha
    exact ⟨upd_ne ddd.symm upd_same, fun n hn => ne_sn (h0.sl n hn) hD'⟩
  have ht1 := hs1.t
  have hd1 := hs1.d
  simp only at ht1 hd1
  repeat trivial
  refine C_find_cycle (E := noE) (r := r) (S := { S with rl := some D }) (by exact hs1) hF.sm ?_ ?_
  · intro n hn' m hm2
    rw [List.mem_filter] at hm2
    refine ⟨(hm m).mpr hm2.1, hr m hm2.1 n (by simpa using hm2.2)⟩
  intro τ' hE
  repeat trivial
  refine hQ { S with rl := some D } τ' _ ⟨(hs1.ext hE).congr (fun n hn => ?_) (fun n hn => rfl), hm, ⟨D, rfl⟩, hs1.nodup.filter _, fun n => ?_, List.nodup_nil, List.nodup_nil, by simp, by simp, by simp⟩ ?_ ?_ rfl
  · rw [if_pos (hm' n hn)]
    simp only [npOf, List.not_mem_nil, if_false]
    rw [List.filter_eq_self.mpr (by simp)]
  · rw [List.mem_filter, hm]
    simp only [List.not_mem_nil, not_false_eq_true, true_and]
    refine and_congr_right fun _ => ?_
    simp only [decide_eq_true_eq, List.length_eq_zero_iff]
    constructor
    · intro h p hp; rw [h] at hp; simp at hp
    · intro h
      cases hp : pr n with
      | nil => rfl
      | cons a l => exact (h a (by rw [hp]; simp)).elim
  · exact ((hF.keep.upd (hF.keep.none hD')).upd (hF.out _ .d)).tr hE
  · intro b hb
    rcases hb with z | z | z | z | z
    · exact hF.out b (.inl z)
    · exact hF.out b (.inr (.inl z))
    · exact hF.out b (.inr (.inr (.inl z)))
    · cases z; exact hF.keep.none hD'
    · exact hF.out b (.inr (.inr (.inr (.inr z))))
end
end
section
section
variable {K τ τ' : LH} {S : Sr} {ks : List Int} {pr : Int → List Int} {O D rd : List Int} {np np' : Int → Int} {succ succ' : Int → List Int} {po nf : Int} {r : Int → Nat}
theorem Sor.lenrd (h : Sor ad2 τ S ks pr O D rd) (hsm : Sm ks) : rd.length ≤ 20 := ss_len h.rdn fun a ha => hsm a ((h.rdm a).mp ha).1

set_option maxHeartbeats 4000000 in
theorem C_get_ready {σ : LS} {Q : LV → LS → Prop} {E : LX → LS → Prop} (h : Sor ad2 σ.heap S ks pr O D rd) (hsm : Sm ks)
    (hQ : ∀ τ', Sor ad2 τ' S ks pr (O ++ rd) D [] → Fr S σ.heap τ' → Q (.tup (rd.map .int)) ⟨σ.loc, τ'⟩) : P_get_ready ad2 [.ref S.t] Q E σ := by
  refine ⟨_, rfl, ?_⟩
  unfold B_get_ready
  have ht := h.srt.t
  have hd := h.srt.d
  obtain ⟨a, ha⟩ := h.rl
  have hd' := hd
  simp only [topAt, rlV, ha] at hd
  obtain ⟨epn, hn⟩ := h.srt.nd
  obtain ⟨hra, hrn⟩ := h.srt.rl a ha
  have hlen := h.lenrd hsm
  repeat trivial
  refine titems_go (by simp [cap]; omega) ?_
  refine for_go (f := fun n => LV.int n) (fun pre _ σ' => σ'.loc "self" = some (.ref S.t) ∧ σ'.loc "n2i" = some (.ref S.nd) ∧ σ'.loc "result" = some (.tup (rd.map .int)) ∧ Fr S σ.heap σ'.heap ∧ Srt ad2 σ'.heap S (fun m => if m ∈ pre then -1 else npOf pr O D m) (scOf ks pr) rd O.length D.length) rd ?_ ?_ ?_
  · refine ⟨rfl, rfl, rfl, Fr.rfl', ?_⟩
    simp only [List.not_mem_nil, if_false]
    exact h.srt
  · rintro P pre x rest ⟨ℓ, τ2⟩ he ⟨e1, e2, e3, hf, h2⟩ hP
    simp only at e1 e2 e3 hf h2
    have hx : x ∈ S.ns := (h.mem x).mpr ((h.rdm x).mp (by rw [he]; simp)).1
    have hi2 := h2.info x hx
    have hid2 := h2.idd x hx
    obtain ⟨ep2, hn2⟩ := h2.nd
    have lk : (S.ns.map fun n => (n, LV.ref (S.info n))).lookup x = some (.ref (S.info x)) := by rw [lookup_map, if_pos hx]
    refine ⟨True.intro, ?_⟩
    repeat trivial
    refine hP _ ⟨e1, e2, e3, hf.tr (Fr.upd (.info hx)), ?_⟩
    have := h2.setnp hx (-1)
    refine this.congr (fun n hn => ?_) (fun _ _ => rfl)
    by_cases z : n = x
    · subst z; simp
    · simp [z]
  · rintro ⟨ℓ, τ2⟩ ⟨e1, e2, e3, hf, h2⟩
    simp only at e1 e2 e3 hf h2
    refine ⟨True.intro, ?_⟩
    have ht2 := h2.t
    have hd2 := h2.d
    obtain ⟨hra2, _⟩ := h2.rl a ha
    simp only [topAt, rlV, ha] at hd2
    repeat trivial
    have h3 := h2.setrd ha []
    have ht3 := h3.t
    have hd3 := h3.d
    simp only [topAt, rlV, ha] at hd3
    repeat trivial
    refine lenT_go (by simp [cap]; omega) ?_
    repeat trivial
    simp only [fput, String.reduceEq, if_false, if_true]
    refine hQ _ ⟨?_, h.mem, h.rl, List.nodup_nil, fun n => ?_, ?_, h.dd, fun n hn => List.mem_append_left _ (h.dO n hn), fun n hn => ?_, fun n hn => ?_⟩ ?_
    · have h4 := h3.setd (O.length + rd.length) D.length
      have e : ((O ++ rd).length : Int) = (O.length : Int) + rd.length := by simp
      rw [e]
      simp only [topAt, rlV, ha] at h4
      simp only [List.length_map]
      refine h4.congr (fun n hn => ?_) (fun _ _ => rfl)
      by_cases z : n ∈ rd
      · have h1 := ((h.rdm n).mp z).2.1
        have h2 : n ∉ D := fun y => h1 (h.dO n y)
        simp [npOf, z, h2]
      · simp [npOf, z]
    · constructor
      · intro z; simp at z
      · rintro ⟨z1, z2, z3⟩
        refine absurd ?_ z2
        by_cases y : n ∈ O
        · simp [y]
        · exact List.mem_append_right _ ((h.rdm n).mpr ⟨z1, y, z3⟩)
    · rw [List.nodup_append]
      exact ⟨h.od, h.rdn, fun a ha b hb z => ((h.rdm b).mp hb).2.1 (z ▸ ha)⟩
    · rcases List.mem_append.mp hn with z | z
      · exact h.ok n z
      · exact ((h.rdm n).mp z).1
    · rcases List.mem_append.mp hn with z | z
      · exact h.op n z
      · exact ((h.rdm n).mp z).2.2
    · exact (hf.tr (Fr.upd (.rl ha))).tr (Fr.upd .d)

theorem C_is_active {σ : LS} {Q : LV → LS → Prop} {E : LX → LS → Prop} (h : Sor ad2 σ.heap S ks pr O D rd)
    (hQ : Q (.bool (decide (D.length < O.length) || !rd.isEmpty)) σ) : P_is_active ad2 [.ref S.t] Q E σ := by
  refine ⟨_, rfl, ?_⟩
  unfold B_is_active
  have ht := h.srt.t
  have hd := h.srt.d
  obtain ⟨a, ha⟩ := h.rl
  simp only [topAt, rlV, ha] at hd
  obtain ⟨hra, hrn⟩ := h.srt.rl a ha
  repeat trivial
  refine if_both (fun z => ?_) (fun z => ?_)
  · have : D.length < O.length := by simpa using z
    simp only [this, decide_true, Bool.true_or] at hQ
    have e : decide ((D.length : Int) < O.length) = true := z
    rw [e]; exact hQ
  · have : ¬ D.length < O.length := by simpa using z
    simp only [this, decide_false, Bool.false_or] at hQ
    repeat trivial
    have e : (rd.map LV.int).isEmpty = rd.isEmpty := by cases rd <;> rfl
    rw [e]; exact hQ
end
end
section
section
variable {K τ τ' : LH} {S : Sr} {ks : List Int} {pr : Int → List Int} {O D rd : List Int} {np np' : Int → Int} {succ succ' : Int → List Int} {po nf : Int} {r : Int → Nat}
def leftN (pr : Int → List Int) (D : List Int) (n : Int) : Nat := ((pr n).filter fun p => !D.contains p).length
theorem left_step {D : List Int} {x s : Int} (hn : (pr s).Nodup) (hx : x ∈ pr s) (hd : x ∉ D) : leftN pr D s = leftN pr (D ++ [x]) s + 1 := by
  have := sum_drop (fun _ => 1) (fun p => !D.contains p) (fun p => !(D ++ [x]).contains p) x hn hx (by simp [hd]) (fun n => by
    by_cases e : n = x <;> simp [e])
  unfold leftN
  simpa [List.map_const', List.sum_replicate_nat] using this
theorem left_zero {D : List Int} {s : Int} : leftN pr D s = 0 ↔ ∀ p ∈ pr s, p ∈ D := by
  unfold leftN
  rw [List.length_eq_zero_iff, List.filter_eq_nil_iff]
  simp
/-- counters while a done job's followers are gone through -/
def npMid (pr : Int → List Int) (O D : List Int) (x : Int) (q : List Int) (n : Int) : Int := if n ∈ D ++ [x] then -2 else if n ∈ O then -1 else if n ∈ q then (leftN pr (D ++ [x]) n : Nat) else (leftN pr D n : Nat)

set_option maxHeartbeats 8000000 in
theorem C_done {σ : LS} {xs : List Int} {Q : LV → LS → Prop} {E : LX → LS → Prop} (h : Sor ad2 σ.heap S ks pr O D rd) (hk : GrOk ks pr) (hxn : xs.Nodup) (hxs : ∀ x ∈ xs, x ∈ O ∧ x ∉ D)
    (hQ : ∀ τ' rd', Sor ad2 τ' S ks pr O (D ++ xs) rd' → Fr S σ.heap τ' → Q .none ⟨σ.loc, τ'⟩) : P_done ad2 (.ref S.t :: xs.map .int) Q E σ := by
  have hxl : xs.length ≤ 20 := ss_len hxn fun a ha => hk.sm a (h.ok a (hxs a ha).1)
  refine ⟨[("self", .ref S.t), ("nodes", .tup (xs.map .int))], ?_, ?_⟩
  · unfold bndV
    rw [if_pos (by simp [cap]; omega)]
    rfl
  unfold B_done
  have ht := h.srt.t
  have hd := h.srt.d
  obtain ⟨a, ha⟩ := h.rl
  simp only [topAt, rlV, ha] at hd
  repeat trivial
  refine titems_go (by simp [cap]; omega) ?_
  refine for_go (f := fun n => LV.int n) (fun pre _ σ' => σ'.loc "self" = some (.ref S.t) ∧ σ'.loc "n2i" = some (.ref S.nd) ∧ Fr S σ.heap σ'.heap ∧ ∃ rd', Sor ad2 σ'.heap S ks pr O (D ++ pre) rd') xs ⟨rfl, rfl, Fr.rfl', rd, by rw [List.append_nil]; exact h⟩ ?_ ?_
  · rintro P pre x rest ⟨ℓ, τ2⟩ he ⟨e1, e2, hf, rd2, h2⟩ hP
    simp only at e1 e2 hf h2
    obtain ⟨hxO, hxD⟩ := hxs x (by rw [he]; simp)
    have hxp : x ∉ pre := fun z => by
      rw [he, List.nodup_append] at hxn
      exact hxn.2.2 x z x (.head _) rfl
    have hxD2 : x ∉ D ++ pre := by simp [hxD, hxp]
    have hx : x ∈ S.ns := (h.mem x).mpr (h.ok x hxO)
    have hi2 := h2.srt.info x hx
    have hnp : npOf pr O (D ++ pre) x = -1 := by simp only [npOf, if_neg hxD2, if_pos hxO]
    rw [hnp] at hi2
    have hid2 := h2.srt.idd x hx
    obtain ⟨ep2, hn2⟩ := h2.srt.nd
    have lk : (S.ns.map fun n => (n, LV.ref (S.info n))).lookup x = some (.ref (S.info x)) := by rw [lookup_map, if_pos hx]
    refine ⟨True.intro, ?_⟩
    repeat trivial
    rw [lk, Option.getD_some]
    repeat trivial
    simp only [sput1]
    have h3 : Srt ad2 (upd τ2 (S.info x) (nodeAt ad2 (S.idd x) x (-2) (S.sl x))) S (npMid pr O (D ++ pre) x []) (scOf ks pr) rd2 O.length (D ++ pre).length := by
      refine (h2.srt.setnp hx (-2)).congr (fun n hn => ?_) (fun _ _ => rfl)
      by_cases z : n = x
      · subst z; simp [npMid]
      · simp [npMid, npOf, leftN, z]
    have hi3 := h3.info x hx
    have hid3 := h3.idd x hx
    have hs3 := h3.sl x hx
    repeat trivial
    refine for_go (f := fun n => LV.int n) (fun q _ σ' => σ'.loc "self" = some (.ref S.t) ∧ σ'.loc "n2i" = some (.ref S.nd) ∧ Fr S σ.heap σ'.heap ∧ ∃ rd', Srt ad2 σ'.heap S (npMid pr O (D ++ pre) x q) (scOf ks pr) rd' O.length (D ++ pre).length ∧ rd'.Nodup ∧ ∀ n, n ∈ rd' ↔ n ∈ rd2 ∨ (n ∈ q ∧ ∀ p ∈ pr n, p ∈ D ++ pre ++ [x])) (scOf ks pr x) ⟨e1, e2, hf.tr (Fr.upd (.info hx)), rd2, h3, h2.rdn, by simp⟩ ?_ ?_
    · clear hP
      rintro P q s rest2 ⟨ℓ3, τ4⟩ he3 ⟨f1, f2, hf4, rd4, h4, n4, m4⟩ hP
      simp only at f1 f2 hf4 h4
      have hscn : (scOf ks pr x).Nodup := hk.nodup.filter _
      have hsq : s ∉ q := fun z => by
        rw [he3, List.nodup_append] at hscn
        exact hscn.2.2 s z s (.head _) rfl
      have hsm : s ∈ scOf ks pr x := by rw [he3]; simp
      obtain ⟨hsk, hsx⟩ := List.mem_filter.mp hsm
      have hsx : x ∈ pr s := by simpa using hsx
      have hsO : s ∉ O := fun z => hxD2 (h2.op s z x hsx)
      have hsD : s ∉ D ++ pre ++ [x] := fun z => by
        rcases List.mem_append.mp z with y | y
        · exact hsO (h2.dO s y)
        · rw [List.mem_singleton] at y; exact hsO (y ▸ hxO)
      have hs : s ∈ S.ns := (h.mem s).mpr hsk
      have hi4 := h4.info s hs
      have hid4 := h4.idd s hs
      have hst := left_step (D := D ++ pre) (hk.pn s hsk) hsx hxD2
      have hnp4 : npMid pr O (D ++ pre) x q s = leftN pr (D ++ pre ++ [x]) s + 1 := by
        simp only [npMid, if_neg hsD, if_neg hsO, if_neg hsq]
        rw [hst]; simp
      rw [hnp4] at hi4
      obtain ⟨ep4, hn4⟩ := h4.nd
      have hsl4 := h4.sl x hx
      have lk4 : (S.ns.map fun n => (n, LV.ref (S.info n))).lookup s = some (.ref (S.info s)) := by rw [lookup_map, if_pos hs]
      refine ⟨hsl4, ?_⟩
      repeat trivial
      simp only [sput1]
      have e5 : (leftN pr (D ++ pre ++ [x]) s : Int) + 1 - 1 = leftN pr (D ++ pre ++ [x]) s := by omega
      rw [e5]
      have h5 : Srt ad2 (upd τ4 (S.info s) (nodeAt ad2 (S.idd s) s (leftN pr (D ++ pre ++ [x]) s) (S.sl s))) S (npMid pr O (D ++ pre) x (q ++ [s])) (scOf ks pr) rd4 O.length (D ++ pre).length := by
        refine (h4.setnp hs _).congr (fun n hn => ?_) (fun _ _ => rfl)
        by_cases z : n = s
        · subst z; simp only [npMid, if_neg hsD, if_neg hsO]; simp
        · simp [npMid, z]
      have hi5 := h5.info s hs
      have hid5 := h5.idd s hs
      have ht5 := h5.t
      have hd5 := h5.d
      simp only [topAt, rlV, ha] at hd5
      obtain ⟨hra5, hrn5⟩ := h5.rl a ha
      have hrd4 : rd4.length ≤ 20 := ss_len n4 fun b hb => by
        rcases (m4 b).mp hb with z | z
        · exact hk.sm b ((h2.rdm b).mp z).1
        · have : b ∈ scOf ks pr x := by rw [he3]; simp [z.1]
          exact hk.sm b (List.mem_filter.mp this).1
      have hsr : s ∉ rd4 := fun z => by
        rcases (m4 s).mp z with y | y
        · exact hxD2 (((h2.rdm s).mp y).2.2 x hsx)
        · exact hsq y.1
      have key : npMid pr O (D ++ pre) x (q ++ [s]) s = leftN pr (D ++ pre ++ [x]) s := by
        simp only [npMid, if_neg hsD, if_neg hsO]; simp
      rw [key] at hi5
      repeat trivial
      refine if_both (fun z => ?_) (fun z => ?_)
      · have hz : leftN pr (D ++ pre ++ [x]) s = 0 := by simpa using z
        have hz' := left_zero.mp hz
        repeat trivial
        refine lappend_go (by infer_instance) (by simp [cap]; omega) ?_
        refine hP _ ⟨f1, f2, (hf4.tr (Fr.upd (.info hs))).tr (Fr.upd (.rl ha)), rd4 ++ [s], ?_, ?_, fun n => ?_⟩
        · have := h5.setrd ha (rd4 ++ [s])
          rw [List.map_append] at this
          exact this
        · rw [List.nodup_append]
          exact ⟨n4, by simp, fun a ha b hb y => by rw [List.mem_singleton] at hb; subst hb; subst y; exact hsr ha⟩
        · rw [List.mem_append, m4, List.mem_append, List.mem_singleton]
          constructor
          · rintro ((y | ⟨y1, y2⟩) | rfl)
            · exact .inl y
            · exact .inr ⟨.inl y1, y2⟩
            · exact .inr ⟨.inr rfl, hz'⟩
          · rintro (y | ⟨y1 | y1, y2⟩)
            · exact .inl (.inl y)
            · exact .inl (.inr ⟨y1, y2⟩)
            · exact .inr y1
      · have hz : leftN pr (D ++ pre ++ [x]) s ≠ 0 := by simpa using z
        refine hP _ ⟨f1, f2, hf4.tr (Fr.upd (.info hs)), rd4, h5, n4, fun n => ?_⟩
        rw [m4, List.mem_append, List.mem_singleton]
        constructor
        · rintro (y | ⟨y1, y2⟩)
          · exact .inl y
          · exact .inr ⟨.inl y1, y2⟩
        · rintro (y | ⟨y1 | y1, y2⟩)
          · exact .inl y
          · exact .inr ⟨y1, y2⟩
          · subst y1; exact absurd (left_zero.mpr y2) hz
    · rintro ⟨ℓ3, τ4⟩ ⟨f1, f2, hf4, rd4, h4, n4, m4⟩
      simp only at f1 f2 hf4 h4
      refine ⟨h4.sl x hx, ?_⟩
      have ht4 := h4.t
      have hd4 := h4.d
      repeat trivial
      simp only [fput, String.reduceEq, if_false, if_true]
      refine hP _ ⟨f1, f2, hf4.tr (Fr.upd .d), rd4, ⟨?_, h.mem, h.rl, n4, fun n => ?_, h.od, ?_, ?_, h.ok, ?_⟩⟩
      · have h5 := h4.setd O.length ((D ++ pre).length + 1)
        have e : ((D ++ (pre ++ [x])).length : Int) = ((D ++ pre).length : Int) + 1 := by simp; omega
        rw [e]
        refine h5.congr (fun n hn => ?_) (fun _ _ => rfl)
        have hnk := (h.mem n).mp hn
        rw [← List.append_assoc]
        simp only [npMid, npOf]
        split
        · rfl
        · rename_i hnd
          split
          · rfl
          · rename_i hnO
            have : (if n ∈ scOf ks pr x then ((leftN pr (D ++ pre ++ [x]) n : Nat) : Int) else (leftN pr (D ++ pre) n : Nat)) = (leftN pr (D ++ pre ++ [x]) n : Nat) := by
              split
              · rfl
              · rename_i hns
                have hxn : x ∉ pr n := fun z => hns (List.mem_filter.mpr ⟨hnk, by simpa using z⟩)
                unfold leftN
                congr 2
                refine List.filter_congr fun p hp => ?_
                have : p ≠ x := fun z => hxn (z ▸ hp)
                simp [this]
            rw [this]; rfl
      · rw [m4, h2.rdm, ← List.append_assoc]
        constructor
        · rintro (⟨y1, y2, y3⟩ | ⟨y1, y2⟩)
          · exact ⟨y1, y2, fun p hp => List.mem_append_left _ (y3 p hp)⟩
          · obtain ⟨g1, g2⟩ := List.mem_filter.mp y1
            refine ⟨g1, fun z => ?_, y2⟩
            exact hxD2 (h2.op n z x (by simpa using g2))
        · rintro ⟨y1, y2, y3⟩
          by_cases z : x ∈ pr n
          · exact .inr ⟨List.mem_filter.mpr ⟨y1, by simpa using z⟩, y3⟩
          · refine .inl ⟨y1, y2, fun p hp => ?_⟩
            rcases List.mem_append.mp (y3 p hp) with y | y
            · exact y
            · rw [List.mem_singleton] at y; exact absurd (y ▸ hp) z
      · rw [← List.append_assoc, List.nodup_append]
        exact ⟨h2.dd, by simp, fun a ha b hb y => by rw [List.mem_singleton] at hb; subst hb; subst y; exact hxD2 ha⟩
      · intro n hn
        rw [← List.append_assoc] at hn
        rcases List.mem_append.mp hn with y | y
        · exact h2.dO n y
        · rw [List.mem_singleton] at y; exact y ▸ hxO
      · intro n hn p hp
        rw [← List.append_assoc]
        exact List.mem_append_left _ (h2.op n hn p hp)
  · rintro ⟨ℓ, τ2⟩ ⟨e1, e2, hf, rd2, h2⟩
    exact ⟨True.intro, hQ τ2 rd2 h2 hf⟩
end
end
section
/-- must be ahead of, or is -/
inductive Le (pr : Int → List Int) : Int → Int → Prop
  | refl (a : Int) : Le pr a a
  | step {a p k : Int} : Le pr a p → p ∈ pr k → Le pr a k
theorem Le.iff {pr : Int → List Int} {a k : Int} : Le pr a k ↔ a = k ∨ ∃ p ∈ pr k, Le pr a p := by
  constructor
  · intro h
    cases h with
    | refl => exact .inl rfl
    | step h hp => exact .inr ⟨_, hp, h⟩
  · rintro (rfl | ⟨p, hp, h⟩)
    · exact .refl _
    · exact h.step hp
theorem dput_map {f : Int → LV} {ks : List Int} {x : Int} {v : LV} (h : x ∉ ks) : dput (ks.map fun n => (n, f n)) x v = (ks ++ [x]).map fun n => (n, if n = x then v else f n) := by
  rw [dput_new (by rw [lookup_map, if_neg h]), List.map_append]
  simp only [List.map_cons, List.map_nil, if_true]
  congr 1
  refine List.map_congr_left fun n hn => ?_
  rw [if_neg fun (z : n = x) => h (z ▸ hn)]
theorem dset_go' {QU : Unit → LS → Prop} {E : LX → LS → Prop} {σ : LS} {a : Nat} {es : List (Int × LV)} {ep : Nat} {k : Int} {v : LV} (h : σ.heap a = some (.dict es ep)) (h1 : es.length + 1 ≤ cap) (q : ∀ ep' τ', upd σ.heap a (.dict (dput es k v) ep') = τ' → QU () ⟨σ.loc, τ'⟩) : pdset (.ref a) (.int k) v QU E σ := ⟨es, ep, h, h1, fun ep' => q ep' _ rfl⟩
theorem filter_tt {α : Type} (xs : List α) : xs.filter (fun _ => true) = xs := List.filter_eq_self.mpr (by simp)
section
variable {K τ τ' : LH} {S : Sr} {ks : List Int} {pr : Int → List Int} {O D rd : List Int} {r : Int → Nat}
/-- all jobs are handed out where none is ready -/
theorem Sor.all (h : Sor ad2 τ S ks pr O O []) (hk : GrOk ks pr) (hr : ∀ k ∈ ks, ∀ p ∈ pr k, r p < r k) : ∀ n ∈ ks, n ∈ O := by
  intro n
  generalize hm : r n = m
  induction m using Nat.strongRecOn generalizing n with
  | ind m ih =>
    intro hn
    refine Decidable.byContradiction fun hO => ?_
    have := (h.rdm n).mpr ⟨hn, hO, fun p hp => ih (r p) (hm ▸ hr n hn p hp) p rfl (hk.sub n hn p hp)⟩
    simp at this
/-- what _law_read tells -/
structure ReadOk (τ : LH) (ks : List Int) (pr : Int → List Int) (ra un : Nat) (O : List Int) (rk : Int → Int) (ua : Int → Nat) (U : Int → List Int) : Prop where
  ra : ∃ ep, τ ra = some (.dict (O.map fun n => (n, .int (rk n))) ep)
  un : ∃ ep, τ un = some (.dict (O.map fun n => (n, .ref (ua n))) ep)
  ual : ∀ n ∈ O, τ (ua n) = some (.list ((U n).map .int))
  rk0 : ∀ n ∈ O, 0 ≤ rk n
  rks : ∀ n ∈ O, ∀ p ∈ pr n, rk p < rk n
  uS : ∀ n ∈ O, SS (U n)
  uM : ∀ n ∈ O, ∀ a, a ∈ U n ↔ Le pr a n
theorem le_mem (hk : GrOk ks pr) {a n : Int} (h : Le pr a n) (hn : n ∈ ks) : a ∈ ks := by
  induction h with
  | refl => exact hn
  | step h hp ih => exact ih (hk.sub _ hn _ hp)
theorem ReadOk.ext {ra un : Nat} {O : List Int} {rk : Int → Int} {ua : Int → Nat} {U : Int → List Int} (h : ReadOk τ ks pr ra un O rk ua U) (e : Ext τ τ') : ReadOk τ' ks pr ra un O rk ua U := by
  obtain ⟨⟨ep, h1⟩, ⟨ep', h2⟩, h3, h4, h5, h6, h7⟩ := h
  exact ⟨⟨ep, e _ _ h1⟩, ⟨ep', e _ _ h2⟩, fun n hn => e _ _ (h3 n hn), h4, h5, h6, h7⟩

theorem Fill.new {np : Int → Int} {succ : Int → List Int} (h : Fill ad2 K τ S np succ) {a : Nat} {o : LO} (ha : τ a = none) : Fill ad2 (upd K a o) (upd τ a o) S np succ := by
  refine ⟨h.srt.ext (Ext.new ha), fun b o' e => ?_, fun b hb => ?_, h.zero, h.sm, h.rl⟩
  · by_cases z : b = a
    · subst z; rw [upd_same] at e ⊢; exact e
    · have : K b = some o' := by simpa [upd, z] using e
      exact upd_ne z (h.keep b o' this)
  · obtain ⟨o', e⟩ := h.srt.foot hb
    exact upd_ne (ne_sn e ha) (h.out b hb)

set_option maxHeartbeats 8000000 in
theorem C_read {σ : LS} {g : Nat} {Q : LV → LS → Prop} {E : LX → LS → Prop} (hg : Gr σ.heap g ks pr) (hk : GrOk ks pr) (hr : ∀ k ∈ ks, ∀ p ∈ pr k, r p < r k)
    (hQ : ∀ τ' ra un O rk ua U, Ext σ.heap τ' → O.Nodup → (∀ n, n ∈ O ↔ n ∈ ks) → ReadOk τ' ks pr ra un O rk ua U → Q (.tup [.ref ra, .ref un]) ⟨σ.loc, τ'⟩) : P_law_read ad2 [.ref g] Q E σ := by
  refine ⟨_, rfl, ?_⟩
  unfold B_law_read
  have hkl := ss_len hk.nodup hk.sm
  trivial
  intro d a hda hd ha
  refine C_T (E := noE) hda hd ha (by exact hg) hk ?_
  intro S τ1 hF hm hSa
  refine ⟨rfl, ?_⟩
  subst hSa
  repeat trivial
  intro ra hra
  repeat trivial
  intro un hun
  have hra' : τ1 ra = none := hra
  have nru : un ≠ ra := by rintro rfl; simp [upd] at hun
  have hun' : τ1 un = none := by simpa [upd, nru] using hun
  have hrun := nru.symm
  iterate 3 trivial
  have hF2 : Fill ad2 (upd (upd σ.heap ra (.dict [] 0)) un (.dict [] 0)) (upd (upd τ1 ra (.dict [] 0)) un (.dict [] 0)) S (fun m => if m ∈ ks then ((pr m).length : Int) else 0) (fun m => ks.filter fun k => (pr k).contains m) := (Fill.new hF hra').new (upd_ne nru hun')
  have htF := hF2.srt.t
  have hdF := hF2.srt.d
  repeat trivial
  refine C_prepare (E := noE) (by exact hF2) hm hk hr ?_
  intro S2 τ2 rd hS2 hE2 hO2 ht2
  have hra2 : τ2 ra = some (.dict [] 0) := hE2 _ _ (upd_ne hrun upd_same)
  have hun2 : τ2 un = some (.dict [] 0) := hE2 _ _ upd_same
  have fra : ¬ S2.Foot ra := fun z => by have := hO2 ra z; rw [upd_ne hrun upd_same] at this; cases this
  have fun' : ¬ S2.Foot un := fun z => by have := hO2 un z; rw [upd_same] at this; cases this
  have kra : σ.heap ra = none := hF.keep.none hra'
  have kun : σ.heap un = none := hF.keep.none hun'
  have kS : ∀ b, S2.Foot b → σ.heap b = none := fun b hb => by
    have := hO2 b hb
    unfold upd at this
    split at this
    · cases this
    · split at this
      · cases this
      · exact this
  have kE : Ext σ.heap τ2 := (((Ext.rfl'.upd kra).upd kun).tr hE2)
  obtain ⟨pa, epg, hg1, hg2⟩ := hg
  refine while_go (fun n σ' => ∃ O rd turn rk ua U, ks.length - O.length = n ∧ σ'.loc "parents" = some (.ref g) ∧ σ'.loc "sorter" = some (.ref S2.t) ∧ σ'.loc "ranks" = some (.ref ra) ∧ σ'.loc "seen" = some (.ref un) ∧ σ'.loc "turn" = some (.int turn) ∧ Sor ad2 σ'.heap S2 ks pr O O rd ∧ Ext σ.heap σ'.heap ∧ ReadOk σ'.heap ks pr ra un O rk ua U ∧ 0 ≤ turn ∧ (∀ n ∈ O, rk n < turn) ∧ (∀ n ∈ O, ¬ S2.Foot (ua n))) ks.length ?_ ?_
  · refine ⟨[], rd, 0, fun _ => 0, fun _ => 0, fun _ => [], rfl, rfl, ?_, rfl, rfl, rfl, hS2, kE, ⟨⟨0, hra2⟩, ⟨0, hun2⟩, by simp, by simp, by simp, by simp, by simp⟩, by decide, by simp, by simp⟩
    rw [ht2]; rfl
  · rintro P n ⟨ℓ, τ⟩ ⟨O, rd, turn, rk, ua, U, hn, e1, e2, e3, e4, e5, hS, hE, hR, t0, htn, hfu⟩ hP
    simp only at e1 e2 e3 e4 e5 hS hE hR
    have htS := hS.srt.t
    have hdS := hS.srt.d
    repeat trivial
    refine C_is_active (E := noE) (by exact hS) ?_
    repeat trivial
    cases hrd : rd with
    | nil =>
      refine if_false' (by simp) ?_
      subst hrd
      repeat trivial
      exact hQ τ ra un O rk ua U hE hS.od (fun n => ⟨hS.ok n, hS.all hk hr n⟩) hR
    | cons y ys =>
      refine if_true' (by simp) ?_
      have hrl := hS.lenrd hk.sm
      repeat trivial
      refine C_get_ready (E := noE) (by exact hS) hk.sm ?_
      intro τ3 hS3 hFr
      have hE3 : Ext σ.heap τ3 := fun b o e => hFr b o (fun z => by rw [kS b z] at e; cases e) (hE b o e)
      obtain ⟨⟨epr, hr1⟩, ⟨epu, hu1⟩, hR3, hR4, hR5, hR6, hR7⟩ := hR
      have hR' : ReadOk τ3 ks pr ra un O rk ua U := ⟨⟨epr, hFr _ _ fra hr1⟩, ⟨epu, hFr _ _ fun' hu1⟩, fun n hn => hFr _ _ (hfu n hn) (hR3 n hn), hR4, hR5, hR6, hR7⟩
      repeat trivial
      refine titems_go (by simp [cap]; omega) ?_
      refine for_go (f := fun n => LV.int n) (fun pre _ σ' => ∃ rk ua U, σ'.loc "parents" = some (.ref g) ∧ σ'.loc "sorter" = some (.ref S2.t) ∧ σ'.loc "ranks" = some (.ref ra) ∧ σ'.loc "seen" = some (.ref un) ∧ σ'.loc "turn" = some (.int turn) ∧ σ'.loc "group" = some (.tup (rd.map .int)) ∧ Sor ad2 σ'.heap S2 ks pr (O ++ rd) O [] ∧ Ext σ.heap σ'.heap ∧ ReadOk σ'.heap ks pr ra un (O ++ pre) rk ua U ∧ (∀ n ∈ O ++ pre, rk n ≤ turn) ∧ (∀ n ∈ O, rk n < turn) ∧ (∀ n ∈ O ++ pre, ¬ S2.Foot (ua n))) rd ?_ ?_ ?_
      · refine ⟨rk, ua, U, e1, e2, e3, e4, e5, rfl, hS3, hE3, by rw [List.append_nil]; exact hR', ?_, htn, by rw [List.append_nil]; exact hfu⟩
        intro n hn
        rw [List.append_nil] at hn
        exact Int.le_of_lt (htn n hn)
      · clear hP
        rintro P pre x rest ⟨ℓ4, τ4⟩ he ⟨rk4, ua4, U4, f1, f2, f3, f4, f5, f6, hS4, hE4, ⟨⟨epr4, hr4⟩, ⟨epu4, hu4⟩, g3, g4, g5, g6, g7⟩, l4, l4', fu4⟩ hP
        simp only at f1 f2 f3 f4 f5 f6 hS4 hE4 hr4 hu4 g3
        refine ⟨True.intro, ?_⟩
        have hxr : x ∈ rd := by rw [he]; simp
        obtain ⟨hxk, hxO, hxp⟩ := (hS.rdm x).mp hxr
        have hxpre : x ∉ pre := fun z => by
          have := hS.rdn
          rw [he, List.nodup_append] at this
          exact this.2.2 x z x (.head _) rfl
        have hxn : x ∉ O ++ pre := by simp [hxO, hxpre]
        have hol : (O ++ pre).length ≤ 20 := by
          have h1 : (O ++ rd).length ≤ ks.length := hS4.od.length_le_of_subset fun a ha => hS4.ok a ha
          rw [he] at h1
          simp only [List.length_append, List.length_cons] at h1 ⊢
          omega
        repeat trivial
        refine dset_go' hr4 (by simp only [List.length_map]; unfold cap; omega) (fun ep5 τ5 hτ5 => ?_)
        rw [dput_map hxn] at hτ5
        have hga : g ≠ ra := ne_sn hg1 kra
        have hpa := hg2 x hxk
        have hpra : pa x ≠ ra := ne_sn hpa kra
        have hE5 : Ext σ.heap τ5 := by rw [← hτ5]; exact hE4.upd kra
        have hgE := hE5 _ _ hg1
        have hpE := hE5 _ _ hpa
        have lkg : (ks.map fun k => (k, LV.ref (pa k))).lookup x = some (.ref (pa x)) := by rw [lookup_map, if_pos hxk]
        repeat trivial
        intro b1 hb1
        have hb1' : τ5 b1 = none := hb1
        repeat trivial
        intro b2 hb2
        have hE52 : Ext τ5 (upd (upd τ5 b1 (.list [.int x])) b2 (.list [.ref b1])) := (Ext.new hb1').tr (Ext.new hb2)
        have hu5 : τ5 un = some (.dict ((O ++ pre).map fun n => (n, .ref (ua4 n))) epu4) := by rw [← hτ5]; exact upd_ne nru hu4
        have hr5 : τ5 ra = some (.dict ((O ++ pre ++ [x]).map fun n => (n, if n = x then LV.int turn else .int (rk4 n))) ep5) := by rw [← hτ5]; exact upd_same
        have hp5 := hE5 _ _ hpa
        have hS5 : Sor ad2 τ5 S2 ks pr (O ++ rd) O [] := by rw [← hτ5]; exact hS4.put fra
        have g35 : ∀ n ∈ O ++ pre, τ5 (ua4 n) = some (.list ((U4 n).map .int)) := fun n hn => by rw [← hτ5]; exact upd_ne (ne_oo (g3 n hn) hr4 (by simp)) (g3 n hn)
        have hgE2 := hE52 _ _ hgE
        have hpE2 := hE52 _ _ hpE
        have huE2 := hE52 _ _ hu5
        repeat trivial
        intro Dl hDl
        have hDl' : (upd (upd τ5 b1 (.list [.int x])) b2 (.list [.ref b1])) Dl = none := hDl
        have dn1 : pa x ≠ Dl := ne_sn hpE2 hDl'
        have dn2 : un ≠ Dl := ne_sn huE2 hDl'
        have hprO : ∀ p ∈ pr x, p ∈ O ++ pre := fun p hp => List.mem_append_left _ (hxp p hp)
        have hprl : (pr x).length ≤ 20 := ss_len (hk.pn x hxk) fun a ha => hk.sm a (hk.sub x hxk a ha)
        refine comp_go (f := fun n => LV.int n) (fun _ => true) (fun o => .ref (ua4 o)) (by unfold cap; omega) (fun ℓ' acc => by exact upd_ne dn1 hpE2) (fun o ho acc ℓ' hℓ => ?_) ?_
        · have lku : ((O ++ pre).map fun n => (n, LV.ref (ua4 n))).lookup o = some (.ref (ua4 o)) := by rw [lookup_map, if_pos (hprO o ho)]
          refine ⟨fun y => if y = "other" then some (.int o) else ℓ' y, fun y hy => ?_, fun K h => h, fun K h => h, fun hc K h => ?_⟩
          · by_cases z : y = "other"
            · subst z; simp at hy
            · simp only [if_neg z]; exact hℓ y hy
          · repeat trivial
        rw [filter_tt]
        refine cat_go (xs := [LV.ref b1]) (ys := (pr x).map fun o => LV.ref (ua4 o)) (by exact upd_new hDl' upd_same) (by exact upd_same) (by simp [cap]; omega) ?_
        intro b4 hb4
        have hE54 := (hE52.tr (Ext.new (o := .list ((pr x).map fun o => LV.ref (ua4 o))) hDl')).tr (Ext.new (o := .list ([LV.ref b1] ++ (pr x).map fun o => LV.ref (ua4 o))) hb4)
        have hb14 : upd (upd (upd (upd τ5 b1 (.list [.int x])) b2 (.list [.ref b1])) Dl (.list ((pr x).map fun o => LV.ref (ua4 o)))) b4 (.list ([LV.ref b1] ++ (pr x).map fun o => LV.ref (ua4 o))) b1 = some (.list [.int x]) := upd_new hb4 (upd_new hDl' (upd_new hb2 upd_same))
        refine C_joinedF (E := noE) (rws := (b1, [x]) :: (pr x).map fun o => (ua4 o, U4 o)) (by rw [List.map_cons, List.map_map]; exact upd_same) ?_ ?_
        · intro p hp
          rcases List.mem_cons.mp hp with rfl | hp
          · exact ⟨hb14, List.pairwise_singleton _ _, fun b hb => by rw [List.mem_singleton] at hb; subst hb; exact hk.sm b hxk⟩
          · obtain ⟨o, ho, rfl⟩ := List.mem_map.mp hp
            have ho' := hprO o ho
            exact ⟨hE54 _ _ (g35 o ho'), g6 o ho', fun b hb => hk.sm b (le_mem hk ((g7 o ho' b).mp hb) (hk.sub x hxk o ho))⟩
        intro b3 τ6 js hb3 hE6 hw hjs mW
        have hjm : ∀ a, a ∈ js ↔ Le pr a x := fun a => by
          rw [mW, Le.iff (k := x)]
          constructor
          · rintro ⟨p, h1, h2⟩
            rcases List.mem_cons.mp h1 with rfl | h1
            · exact .inl (List.mem_singleton.mp h2)
            · obtain ⟨o, ho, rfl⟩ := List.mem_map.mp h1
              exact .inr ⟨o, ho, (g7 o (hprO o ho) a).mp h2⟩
          · rintro (rfl | ⟨o, ho, h2⟩)
            · exact ⟨_, .head _, by simp⟩
            · exact ⟨_, .tail _ (List.mem_map_of_mem ho), (g7 o (hprO o ho) a).mpr h2⟩
        have hE57 := hE54.tr hE6
        have hnf3 : ¬ S2.Foot b3 := (hS5.ext hE54).foot hb3
        have hu7 := hE57 _ _ hu5
        repeat trivial
        have b3u : b3 ≠ un := (ne_sn (hE54 _ _ hu5) hb3).symm
        refine dset_go' (by exact hu7) (by simp only [List.length_map]; unfold cap; omega) (fun ep6 τ8 hτ8 => ?_)
        rw [dput_map hxn] at hτ8
        have lo : ∀ b o, b ≠ un → τ5 b = some o → τ8 b = some o := fun b o hb e => by rw [← hτ8]; exact upd_ne hb (hE57 _ _ e)
        have h8u : τ8 un = some (.dict ((O ++ pre ++ [x]).map fun n => (n, if n = x then LV.ref b3 else .ref (ua4 n))) ep6) := by rw [← hτ8]; exact upd_same
        have h8b : τ8 b3 = some (.list (js.map .int)) := by rw [← hτ8]; exact upd_ne b3u hw
        have hcase : ∀ n ∈ O ++ (pre ++ [x]), n = x ∨ (n ≠ x ∧ n ∈ O ++ pre) := fun n hn => by
          rw [← List.append_assoc] at hn
          rcases List.mem_append.mp hn with z | z
          · exact .inr ⟨fun y => hxn (y ▸ z), z⟩
          · exact .inl (List.mem_singleton.mp z)
        refine hP _ ⟨fun m => if m = x then turn else rk4 m, fun m => if m = x then b3 else ua4 m, fun m => if m = x then js else U4 m, f1, f2, f3, f4, f5, f6, ?_, ?_, ⟨⟨ep5, ?_⟩, ⟨ep6, ?_⟩, fun n hn => ?_, fun n hn => ?_, fun n hn p hp => ?_, fun n hn => ?_, fun n hn a => ?_⟩, fun n hn => ?_, fun n hn => ?_, fun n hn => ?_⟩
        · rw [← hτ8]; exact (hS5.ext hE57).put fun'
        · rw [← hτ8]; exact (hE5.tr hE57).upd kun
        · refine (lo _ _ hrun hr5).trans ?_
          rw [List.append_assoc]
          refine congrArg (fun l => some (LO.dict l ep5)) (List.map_congr_left fun n _ => ?_)
          split <;> rfl
        · refine h8u.trans ?_
          rw [List.append_assoc]
          refine congrArg (fun l => some (LO.dict l ep6)) (List.map_congr_left fun n _ => ?_)
          split <;> rfl
        · rcases hcase n hn with z | ⟨z1, z2⟩
          · subst z; simp only [if_true]; exact h8b
          · simp only [if_neg z1]
            exact lo _ _ (ne_oo (g35 n z2) hu5 (by simp)) (g35 n z2)
        · rcases hcase n hn with z | ⟨z1, z2⟩
          · subst z; simp only [if_true]; exact t0
          · simp only [if_neg z1]; exact g4 n z2
        · rcases hcase n hn with z | ⟨z1, z2⟩
          · subst z
            have hpn : p ≠ n := fun y => hxO (y ▸ hxp p hp)
            simp only [if_true, if_neg hpn]
            exact l4' p (hxp p hp)
          · have hnk : n ∈ ks := hS4.ok n (by
              rcases List.mem_append.mp z2 with y | y
              · exact List.mem_append_left _ y
              · exact List.mem_append_right _ (by rw [he]; simp [y]))
            have hnO : n ∈ O ++ rd := by
              rcases List.mem_append.mp z2 with y | y
              · exact List.mem_append_left _ y
              · exact List.mem_append_right _ (by rw [he]; simp [y])
            have hpn : p ≠ x := fun y => hxO (y ▸ hS4.op n hnO p hp)
            simp only [if_neg z1, if_neg hpn]
            exact g5 n z2 p hp
        · rcases hcase n hn with z | ⟨z1, z2⟩
          · subst z; simp only [if_true]; exact hjs
          · simp only [if_neg z1]; exact g6 n z2
        · rcases hcase n hn with z | ⟨z1, z2⟩
          · subst z; simp only [if_true]; exact hjm a
          · simp only [if_neg z1]; exact g7 n z2 a
        · rcases hcase n hn with z | ⟨z1, z2⟩
          · subst z; simp
          · simp only [if_neg z1]; exact l4 n z2
        · have : n ≠ x := fun y => hxO (y ▸ hn)
          simp only [if_neg this]; exact l4' n hn
        · rcases hcase n hn with z | ⟨z1, z2⟩
          · subst z; simp only [if_true]; exact hnf3
          · simp only [if_neg z1]; exact fu4 n z2
      · rintro ⟨ℓ4, τ4⟩ ⟨rk4, ua4, U4, f1, f2, f3, f4, f5, f6, hS4, hE4, hR4', l4, l4', fu4⟩
        simp only at f1 f2 f3 f4 f5 f6 hS4 hE4 hR4'
        refine ⟨True.intro, ?_⟩
        have htS4 := hS4.srt.t
        have hdS4 := hS4.srt.d
        repeat trivial
        refine starT_go (by simp [cap]; omega) ?_
        refine C_done (E := noE) (by exact hS4) hk hS.rdn (fun x hx => ⟨List.mem_append_right _ hx, ((hS.rdm x).mp hx).2.1⟩) ?_
        intro τ5 rd5 hS5 hFr5
        repeat trivial
        obtain ⟨⟨epr4, hr4⟩, ⟨epu4, hu4⟩, g3, g4, g5, g6, g7⟩ := hR4'
        refine hP _ _ ?_ ⟨O ++ rd, rd5, turn + 1, rk4, ua4, U4, rfl, f1, f2, f3, f4, rfl, hS5, fun b o e => hFr5 b o (fun z => by rw [kS b z] at e; cases e) (hE4 b o e), ⟨⟨epr4, hFr5 _ _ fra hr4⟩, ⟨epu4, hFr5 _ _ fun' hu4⟩, fun n hn => hFr5 _ _ (fu4 n hn) (g3 n hn), g4, g5, g6, g7⟩, by omega, fun n hn => by have := l4 n hn; omega, fu4⟩
        have h1 : (O ++ rd).length ≤ ks.length := hS5.od.length_le_of_subset fun a ha => hS5.ok a ha
        have h2 : rd.length = ys.length + 1 := by rw [hrd]; rfl
        simp only [List.length_append] at h1 ⊢
        omega
end
end
section
section
variable {K τ τ' : LH} {ks : List Int} {pr : Int → List Int} {r : Int → Nat}
theorem Le.trans' {a s n : Int} (h : a ∈ pr s) (k : Le pr s n) : Le pr a n := by
  induction k with
  | refl => exact (Le.refl a).step h
  | step _ hp ih => exact (ih).step hp
theorem Le.down {C : List Int} (hC : ∀ n ∈ C, ∀ p ∈ pr n, p ∈ C) {a n : Int} (h : Le pr a n) (hn : n ∈ C) : a ∈ C := by
  induction h with
  | refl => exact hn
  | step h hp ih => exact ih (hC _ hn _ hp)
set_option maxHeartbeats 4000000 in
theorem C_reached {σ : LS} {g nm hd : Nat} {ns H : List Int} {Q : LV → LS → Prop} {E : LX → LS → Prop} (hg : Gr σ.heap g ks pr) (hk : GrOk ks pr) (hr : ∀ k ∈ ks, ∀ p ∈ pr k, r p < r k) (hnm : σ.heap nm = some (.list (ns.map .int))) (hns : ∀ n, n ∈ ns ↔ n ∈ ks) (hpw : ns.Pairwise fun a b => r a < r b) (hh : σ.heap hd = some (.list (H.map .int))) (hHk : ∀ n ∈ H, n ∈ ks) (hHl : H.length ≤ 20)
    (hQ : ∀ w τ' (R : List Int), Ext σ.heap τ' → τ' w = some (.list (R.map .int)) → (∀ a, a ∈ R ↔ ∃ h ∈ H, Le pr a h) → Q (.ref w) ⟨σ.loc, τ'⟩) : P_law_reached ad2 [.ref g, .ref nm, .ref hd] Q E σ := by
  refine ⟨_, rfl, ?_⟩
  unfold B_law_reached
  obtain ⟨pa, epg, hg1, hg2⟩ := hg
  have hnl : ns.length ≤ 20 := by
    have h1 : ns.Nodup := hpw.imp fun {a b} h z => by rw [z] at h; omega
    exact ss_len h1 fun a ha => hk.sm a ((hns a).mp ha)
  repeat trivial
  intro w hw
  have kw : σ.heap w = none := hw
  have n1 : nm ≠ w := ne_sn hnm kw
  have n2 : g ≠ w := ne_sn hg1 kw
  repeat trivial
  rw [← List.map_reverse]
  refine for_go (f := fun n => LV.int n) (fun pre _ σ' => σ'.loc "parents" = some (.ref g) ∧ σ'.loc "reached" = some (.ref w) ∧ Ext σ.heap σ'.heap ∧ ∃ R : List Int, σ'.heap w = some (.list (R.map .int)) ∧ R.length ≤ H.length + 20 * pre.length ∧ (∀ a ∈ R, ∃ h ∈ H, Le pr a h) ∧ (∀ h ∈ H, h ∈ R) ∧ ∀ k ∈ pre, k ∈ R → ∀ p ∈ pr k, p ∈ R) ns.reverse ⟨rfl, rfl, Ext.new kw, H, upd_same, by simp, fun a ha => ⟨a, ha, .refl a⟩, fun h hh => hh, by simp⟩ ?_ ?_
  · rintro P pre x rest ⟨ℓ, τ⟩ he ⟨e1, e2, hE, R, hR, hl, h1, h2, h3⟩ hP
    simp only at e1 e2 hE hR
    have hpl : pre.length ≤ 20 := by
      have := congrArg List.length he; simp at this; omega
    have hxn : x ∈ ns := by
      have : x ∈ ns.reverse := by rw [he]; simp
      simpa using this
    have hxk := (hns x).mp hxn
    have hpre : ∀ k ∈ pre, r x < r k := fun k hk' => by
      have h4 : ns.reverse.Pairwise fun a b => r b < r a := by rw [List.pairwise_reverse]; exact hpw
      rw [he, List.pairwise_append] at h4
      exact h4.2.2 k hk' x (.head _)
    have lkg : (ks.map fun k => (k, LV.ref (pa k))).lookup x = some (.ref (pa x)) := by rw [lookup_map, if_pos hxk]
    have hgE := hE _ _ hg1
    have hpE := hE _ _ (hg2 x hxk)
    have hprl : (pr x).length ≤ 20 := ss_len (hk.pn x hxk) fun a ha => hk.sm a (hk.sub x hxk a ha)
    refine ⟨by exact hE _ _ hnm, ?_⟩
    repeat trivial
    refine if_both (fun hin => ?_) (fun hin => ?_)
    · have hin : x ∈ R := by simpa using hin
      repeat trivial
      refine lextend_go (by exact hR) (by exact hpE) (by simp [cap]; omega) ?_
      refine hP _ ⟨e1, e2, hE.upd kw, R ++ pr x, by rw [List.map_append]; exact upd_same, by simp; omega, fun a ha => ?_, fun h hh => List.mem_append_left _ (h2 h hh), fun k hk' hkR p hp => ?_⟩
      · rcases List.mem_append.mp ha with z | z
        · exact h1 a z
        · obtain ⟨h, a1, a2⟩ := h1 x hin
          exact ⟨h, a1, Le.trans' z a2⟩
      · rcases List.mem_append.mp hk' with z | z
        · rcases List.mem_append.mp hkR with y | y
          · exact List.mem_append_left _ (h3 k z y p hp)
          · have := hpre k z
            have := hr x hxk k y
            omega
        · rw [List.mem_singleton] at z; subst z
          exact List.mem_append_right _ hp
    · have hin : x ∉ R := by simpa using hin
      refine hP _ ⟨e1, e2, hE, R, hR, by simp; omega, h1, h2, fun k hk' hkR => ?_⟩
      rcases List.mem_append.mp hk' with z | z
      · exact h3 k z hkR
      · rw [List.mem_singleton] at z; subst z; exact absurd hkR hin
  · rintro ⟨ℓ, τ⟩ ⟨e1, e2, hE, R, hR, hl, h1, h2, h3⟩
    simp only at e1 e2 hE hR
    refine ⟨by exact hE _ _ hnm, ?_⟩
    repeat trivial
    refine hQ w τ R hE hR fun a => ⟨h1 a, fun ⟨h, a1, a2⟩ => ?_⟩
    refine a2.down (C := R) (fun n hn p hp => ?_) (h2 h a1)
    obtain ⟨h', b1, b2⟩ := h1 n hn
    have hnk := le_mem hk b2 (hHk h' b1)
    exact h3 n (by simpa using (hns n).mpr hnk) hn p hp
end
end
section
/-- seven places -/
def k7 : List Int := [0, 1, 2, 3, 4, 5, 6]
theorem mem7 {a : Int} : a ∈ k7 ↔ 0 ≤ a ∧ a < 7 := by
  constructor
  · exact (by decide : ∀ a ∈ k7, 0 ≤ a ∧ a < 7) a
  · rintro ⟨h0, h5⟩
    obtain ⟨n, rfl⟩ := Int.eq_ofNat_of_zero_le h0
    exact (by decide : ∀ n : Nat, n < 7 → (n : Int) ∈ k7) n (Int.ofNat_lt.mp h5)
theorem ritems_go {n : Nat} {QI : LIt → LS → Prop} {E : LX → LS → Prop} {σ : LS} (h : n ≤ 1000) (q : QI ((List.range n).map (fun i => LV.int (i : Nat)), fun _ => True) σ) : pritems (.rng 0 (n : Int) 1) QI E σ := by
  refine ⟨⟨by decide, by decide, by omega, by omega, rfl⟩, ?_⟩
  have e : (Builtin.Range.rangeSize 0 (n : Int) 1).toNat = n := by
    unfold Builtin.Range.rangeSize
    rw [if_pos (by decide)]
    split <;> omega
  rw [e]
  have e2 : rngList 0 1 n = (List.range n).map fun i => LV.int (i : Nat) := by
    unfold rngList
    refine List.map_congr_left fun i _ => ?_
    simp
  rw [e2]
  exact q
theorem ritems7_go {QI : LIt → LS → Prop} {E : LX → LS → Prop} {σ : LS} (q : QI (k7.map .int, fun _ => True) σ) : pritems (.rng 0 7 1) QI E σ := ritems_go (n := 7) (by decide) q
/-- a comprehension whose turns may make new things -/
theorem compE_go {α : Type} {f : α → LV} {xs : List α} {g : LS → Prop} {bind : LV → PTx Unit} {body : PTx Unit} {own : List String} {Q : Unit → LS → Prop} {E : LX → LS → Prop} {ℓ : String → Option LV} {τ : LH} (I : List α → LH → Prop) (h0 : I [] τ)
    (hs : ∀ (P : LS → Prop) pre x rest ℓ' τ', xs = pre ++ x :: rest → Agree own ℓ ℓ' → I pre τ' → (∀ ℓ'' τ'', Agree own ℓ ℓ'' → I (pre ++ [x]) τ'' → P ⟨ℓ'', τ''⟩) → g ⟨ℓ', τ'⟩ ∧ bind (f x) (fun _ σ' => body (fun _ σ'' => P σ'') noE σ') noE ⟨ℓ', τ'⟩)
    (hn : ∀ ℓ' τ', I xs τ' → g ⟨ℓ', τ'⟩ ∧ Q () ⟨ℓ, τ'⟩) : pown own (pcompL g bind body (xs.map f)) Q E ⟨ℓ, τ⟩ := by
  refine compL_go (fun pre _ σ => Agree own ℓ σ.loc ∧ I pre σ.heap) xs ⟨fun y hy => ?_, h0⟩ ?_ ?_
  · show (if own.contains y = true then none else ℓ y) = ℓ y
    rw [hy]; rfl
  · intro P pre x rest σ he ⟨h1, h2⟩ hP
    exact hs P pre x rest σ.loc σ.heap he h1 h2 fun ℓ'' τ'' a b => hP ⟨ℓ'', τ''⟩ ⟨a, b⟩
  · intro σ ⟨h1, h2⟩
    exact hn σ.loc σ.heap h2
/-- three lists in a list -/
def Three (τ : LH) (w : Nat) (X Y Z : List Int) : Prop := ∃ L : List (Nat × List Int), τ w = some (.list (L.map fun p => .ref p.1)) ∧ (∀ p ∈ L, τ p.1 = some (.list (p.2.map .int))) ∧ L.map (·.2) = [X, Y, Z]
theorem Three.mk {τ : LH} {w x y z : Nat} {X Y Z : List Int} (h : τ w = some (.list [.ref x, .ref y, .ref z])) (hx : τ x = some (.list (X.map .int))) (hy : τ y = some (.list (Y.map .int))) (hz : τ z = some (.list (Z.map .int))) : Three τ w X Y Z := by
  refine ⟨[(x, X), (y, Y), (z, Z)], h, fun p hp => ?_, rfl⟩
  simp only [List.mem_cons, List.not_mem_nil, or_false] at hp
  rcases hp with rfl | rfl | rfl
  · exact hx
  · exact hy
  · exact hz
theorem Three.ext {τ τ' : LH} {w : Nat} {X Y Z : List Int} (h : Three τ w X Y Z) (e : Ext τ τ') : Three τ' w X Y Z :=
  let ⟨L, a, b, c⟩ := h; ⟨L, e _ _ a, fun p hp => e _ _ (b p hp), c⟩
/-- above a head of the others -/
def Oth (pr : Int → List Int) (H : List Int) (a : Int) : Prop := ∃ h ∈ H, Le pr a h
/-- below one that is shared -/
def Old (pr : Int → List Int) (l : Int) (H : List Int) (a : Int) : Prop := ∃ c, a ∈ pr c ∧ Le pr c l ∧ Oth pr H c
/-- what is to be told -/
structure Told (pr : Int → List Int) (l : Int) (H X Y Z : List Int) : Prop where
  sX : SS X
  sY : SS Y
  sZ : SS Z
  mX : ∀ a, a ∈ X ↔ Le pr a l ∧ ¬ Oth pr H a
  mY : ∀ a, a ∈ Y ↔ Oth pr H a ∧ ¬ Le pr a l
  mZ : ∀ a, a ∈ Z ↔ (Le pr a l ∧ Oth pr H a) ∧ ¬ Old pr l H a
theorem Told.same {pr : Int → List Int} {l : Int} {H X Y Z X' Y' Z' : List Int} (h : Told pr l H X Y Z) (k : Told pr l H X' Y' Z') : X = X' ∧ Y = Y' ∧ Z = Z' :=
  ⟨ss_ext h.sX k.sX fun a => (h.mX a).trans (k.mX a).symm, ss_ext h.sY k.sY fun a => (h.mY a).trans (k.mY a).symm, ss_ext h.sZ k.sZ fun a => (h.mZ a).trans (k.mZ a).symm⟩
section
variable {K τ τ' : LH} {ks : List Int} {pr : Int → List Int} {r : Int → Nat}
theorem Oth.mem (hk : GrOk ks pr) {H : List Int} (hH : ∀ n ∈ H, n ∈ ks) {a : Int} (h : Oth pr H a) : a ∈ ks := by
  obtain ⟨x, h1, h2⟩ := h; exact le_mem hk h2 (hH x h1)
set_option maxHeartbeats 8000000 in
theorem C_due {σ : LS} {g nm re : Nat} {ns H : List Int} {l : Int} {Q : LV → LS → Prop} {E : LX → LS → Prop} (hg : Gr σ.heap g ks pr) (hk : GrOk ks pr) (hk7 : ∀ a, a ∈ ks ↔ a ∈ k7) (hr : ∀ k ∈ ks, ∀ p ∈ pr k, r p < r k) (hnm : σ.heap nm = some (.list (ns.map .int))) (hns : ∀ n, n ∈ ns ↔ n ∈ ks) (hpw : ns.Pairwise fun a b => r a < r b) (hl : l ∈ ks) (hre : σ.heap re = some (.list (H.map .int))) (hHk : ∀ n ∈ H, n ∈ ks) (hHl : H.length ≤ 20)
    (hQ : ∀ w τ' X Y Z, Ext σ.heap τ' → Three τ' w X Y Z → Told pr l H X Y Z → Q (.ref w) ⟨σ.loc, τ'⟩) : P_law_due ad2 [.ref g, .ref nm, .int l, .ref re] Q E σ := by
  refine ⟨_, rfl, ?_⟩
  unfold B_law_due
  have hg0 := hg
  obtain ⟨pa, epg, hg1, hg2⟩ := hg
  repeat trivial
  intro ll hll
  refine C_reached (E := noE) (r := r) (H := [l]) (by exact hg0.ext (Ext.new hll)) hk hr (by exact upd_new hll hnm) hns hpw (by exact upd_same) (fun n hn => by rw [List.mem_singleton] at hn; exact hn ▸ hl) (by simp) ?_
  intro mi τ1 R hE1 hmi mR
  have hE1' : Ext σ.heap τ1 := (Ext.new hll).tr hE1
  have mR : ∀ a, a ∈ R ↔ Le pr a l := fun a => by rw [mR]; simp
  repeat trivial
  refine C_reached (E := noE) (r := r) (H := H) (by exact hg0.ext hE1') hk hr (by exact hE1' _ _ hnm) hns hpw (by exact hE1' _ _ hre) hHk hHl ?_
  intro ot τ2 R' hE2 hot mR'
  have mR' : ∀ a, a ∈ R' ↔ Oth pr H a := mR'
  have hmi2 := hE2 _ _ hmi
  have hE02 : Ext σ.heap τ2 := hE1'.tr hE2
  have mk : ∀ a, a ∈ R → a ∈ k7 := fun a ha => (hk7 a).mp (le_mem hk ((mR a).mp ha) hl)
  have mk' : ∀ a, a ∈ R' → a ∈ k7 := fun a ha => (hk7 a).mp (Oth.mem hk hHk ((mR' a).mp ha))
  have s7 : SS k7 := by decide
  clear hmi hE1 hE2
  repeat trivial
  refine ritems7_go ?_
  intro D1 hD1
  have hD1' : τ2 D1 = none := hD1
  have n1 : mi ≠ D1 := ne_sn hmi2 hD1'
  have n2 : ot ≠ D1 := ne_sn hot hD1'
  refine comp_go (f := fun n => LV.int n) (fun n => R.contains n && R'.contains n) (fun n => .int n) (by decide) (fun ℓ' acc => True.intro) (fun o ho acc ℓ' hℓ => ?_) ?_
  · refine ⟨fun y => if y = "name" then some (.int o) else ℓ' y, fun y hy => ?_, fun K h => h, fun K h => ?_, fun hc K h => ?_⟩
    · by_cases z : y = "name"
      · subst z; simp at hy
      · simp only [if_neg z]; exact hℓ y hy
    · repeat trivial
      refine if_both (fun z => ?_) (fun z => ?_)
      · rw [z, Bool.true_and] at h
        repeat trivial
      · rw [z] at h
        exact h
    · repeat trivial
  have hsS : SS (k7.filter fun n => R.contains n && R'.contains n) := s7.filter _
  have hsM : ∀ a, a ∈ (k7.filter fun n => R.contains n && R'.contains n) ↔ Le pr a l ∧ Oth pr H a := fun a => by
    rw [List.mem_filter, ← mR, ← mR']
    simp only [Bool.and_eq_true, List.contains_iff_mem]
    exact ⟨fun h => h.2, fun h => ⟨mk a h.1, h⟩⟩
  have hsL : (k7.filter fun n => R.contains n && R'.contains n).length ≤ 7 := List.length_filter_le _ _
  generalize (k7.filter fun n => R.contains n && R'.contains n) = Sh at hsS hsM hsL
  generalize hτ3 : upd _ D1 (LO.list (Sh.map fun n => LV.int n)) = τ3
  have hE23 : Ext τ2 τ3 := by rw [← hτ3]; exact Ext.new hD1'
  have hsh : τ3 D1 = some (.list (Sh.map LV.int)) := by rw [← hτ3]; exact upd_same
  have hmi3 := hE23 _ _ hmi2
  have hot3 := hE23 _ _ hot
  have hE03 := hE02.tr hE23
  have hg3 := hE03 _ _ hg1
  clear hτ3 hE23 hmi2 hot hE02 hD1 hD1' n1 n2
  repeat trivial
  refine ritems7_go ?_
  intro D2 hD2
  have hD2' : τ3 D2 = none := hD2
  have n1 : mi ≠ D2 := ne_sn hmi3 hD2'
  have n2 : ot ≠ D2 := ne_sn hot3 hD2'
  refine comp_go (f := fun n => LV.int n) (fun n => R.contains n && !R'.contains n) (fun n => .int n) (by decide) (fun ℓ' acc => True.intro) (fun o ho acc ℓ' hℓ => ?_) ?_
  · refine ⟨fun y => if y = "name" then some (.int o) else ℓ' y, fun y hy => ?_, fun K h => h, fun K h => ?_, fun hc K h => ?_⟩
    · by_cases z : y = "name"
      · subst z; simp at hy
      · simp only [if_neg z]; exact hℓ y hy
    · repeat trivial
      refine if_both (fun z => ?_) (fun z => ?_)
      · rw [z, Bool.true_and] at h
        repeat trivial
      · rw [z] at h
        exact h
    · repeat trivial
  have hXM : ∀ a, a ∈ (k7.filter fun n => R.contains n && !R'.contains n) ↔ Le pr a l ∧ ¬ Oth pr H a := fun a => by
    rw [List.mem_filter, ← mR, ← mR']
    simp only [Bool.and_eq_true, Bool.not_eq_true', List.contains_iff_mem, ← Bool.not_eq_true]
    exact ⟨fun h => h.2, fun h => ⟨mk a h.1, h⟩⟩
  have hXS : SS (k7.filter fun n => R.contains n && !R'.contains n) := s7.filter _
  generalize (k7.filter fun n => R.contains n && !R'.contains n) = X at hXM hXS
  generalize hτ4 : upd _ D2 (LO.list (X.map fun n => LV.int n)) = τ4
  have hE34 : Ext τ3 τ4 := by rw [← hτ4]; exact Ext.new hD2'
  have hX : τ4 D2 = some (.list (X.map LV.int)) := by rw [← hτ4]; exact upd_same
  have hmi4 := hE34 _ _ hmi3
  have hot4 := hE34 _ _ hot3
  have hsh4 := hE34 _ _ hsh
  have hE04 := hE03.tr hE34
  clear hτ4 hE34 hmi3 hot3 hsh hE03 hg3 hD2 hD2' n1 n2
  repeat trivial
  refine ritems7_go ?_
  intro D3 hD3
  have hD3' : τ4 D3 = none := hD3
  have n1 : mi ≠ D3 := ne_sn hmi4 hD3'
  have n2 : ot ≠ D3 := ne_sn hot4 hD3'
  refine comp_go (f := fun n => LV.int n) (fun n => R'.contains n && !R.contains n) (fun n => .int n) (by decide) (fun ℓ' acc => True.intro) (fun o ho acc ℓ' hℓ => ?_) ?_
  · refine ⟨fun y => if y = "name" then some (.int o) else ℓ' y, fun y hy => ?_, fun K h => h, fun K h => ?_, fun hc K h => ?_⟩
    · by_cases z : y = "name"
      · subst z; simp at hy
      · simp only [if_neg z]; exact hℓ y hy
    · repeat trivial
      refine if_both (fun z => ?_) (fun z => ?_)
      · rw [z, Bool.true_and] at h
        repeat trivial
      · rw [z] at h
        exact h
    · repeat trivial
  have hYM : ∀ a, a ∈ (k7.filter fun n => R'.contains n && !R.contains n) ↔ Oth pr H a ∧ ¬ Le pr a l := fun a => by
    rw [List.mem_filter, ← mR, ← mR']
    simp only [Bool.and_eq_true, Bool.not_eq_true', List.contains_iff_mem, ← Bool.not_eq_true]
    exact ⟨fun h => h.2, fun h => ⟨mk' a h.1, h⟩⟩
  have hYS : SS (k7.filter fun n => R'.contains n && !R.contains n) := s7.filter _
  generalize (k7.filter fun n => R'.contains n && !R.contains n) = Y at hYM hYS
  generalize hτ5 : upd _ D3 (LO.list (Y.map fun n => LV.int n)) = τ5
  have hE45 : Ext τ4 τ5 := by rw [← hτ5]; exact Ext.new hD3'
  have hY : τ5 D3 = some (.list (Y.map LV.int)) := by rw [← hτ5]; exact upd_same
  have hX5 := hE45 _ _ hX
  have hsh5 := hE45 _ _ hsh4
  have hE05 := hE04.tr hE45
  clear hτ5 hE45 hmi4 hot4 hX hsh4 hE04 hD3 hD3' n1 n2 mk mk' mR mR'
  repeat trivial
  intro D4 hD4
  have hD4' : τ5 D4 = none := hD4
  refine compE_go (f := fun n => LV.int n) (fun pre τ' => Ext τ5 τ' ∧ ∃ Z : List Int, τ' D4 = some (.list (Z.map .int)) ∧ Z.length ≤ pre.length ∧ (∀ a, a ∈ Z ↔ a ∈ pre ∧ ∀ c ∈ Sh, a ∉ pr c) ∧ Z.Sublist pre) ⟨Ext.new hD4', [], upd_same, by simp, by simp, .slnil⟩ ?_ ?_
  · rintro P pre x rest ℓ τ he hℓ0 ⟨hE, Z, hZ, hZl, hZm, hZs⟩ hP
    have hsh6 := hE _ _ hsh5
    have hg6 := hE _ _ (hE05 _ _ hg1)
    have e1 : ℓ "shared" = some (.ref D1) := hℓ0 _ rfl
    have e2 : ℓ "parents" = some (.ref g) := hℓ0 _ rfl
    have hpl : pre.length < 7 := by
      have := congrArg List.length he; simp at this; omega
    have hag : Agree [".0", "name"] ℓ (LS.set ⟨ℓ, τ⟩ "name" (.int x)).loc := fun y hy => by
      by_cases z : y = "name"
      · subst z; simp at hy
      · show (if y = "name" then _ else _) = _
        rw [if_neg z]
    refine ⟨hsh6, ?_⟩
    repeat trivial
    intro D5 hD5
    have hD5' : τ D5 = none := hD5
    have n3 : D1 ≠ D5 := ne_sn hsh6 hD5'
    have n4 : g ≠ D5 := ne_sn hg6 hD5'
    refine comp_go (f := fun n => LV.int n) (fun c => (pr c).contains x) (fun c => .int c) (by unfold cap; omega) (fun ℓ' acc => by exact upd_ne n3 hsh6) (fun o ho acc ℓ' hℓ => ?_) ?_
    · have hok : o ∈ ks := le_mem hk ((hsM o).mp ho).1 hl
      have lkg : (ks.map fun k => (k, LV.ref (pa k))).lookup o = some (.ref (pa o)) := by rw [lookup_map, if_pos hok]
      have hpo : τ (pa o) = some (.list ((pr o).map .int)) := hE _ _ (hE05 _ _ (hg2 o hok))
      have n5 : pa o ≠ D5 := ne_sn hpo hD5'
      refine ⟨fun y => if y = "child" then some (.int o) else ℓ' y, fun y hy => ?_, fun K h => h, fun K h => ?_, fun hc K h => ?_⟩
      · by_cases z : y = "child"
        · subst z; simp at hy
        · simp only [if_neg z]; exact hℓ y hy
      · repeat trivial
      · repeat trivial
    repeat trivial
    intro em hem
    refine leq0_go (by exact upd_new hem upd_same) (by exact upd_same) ?_
    have hE6 : Ext τ (upd (upd τ D5 (.list ((Sh.filter fun c => (pr c).contains x).map fun c => LV.int c))) em (.list [])) := (Ext.new hD5').tr (Ext.new hem)
    refine if_both (fun z => ?_) (fun z => ?_)
    · have z' : ∀ c ∈ Sh, x ∉ pr c := fun c hc hx => by
        have : (Sh.filter fun c => (pr c).contains x) = [] := by simpa using z
        rw [List.filter_eq_nil_iff] at this
        exact this c hc (by simpa using hx)
      repeat trivial
      refine lappend_go (xs := Z.map .int) (by exact hE6 _ _ hZ) (by simp [cap]; omega) ?_
      refine hP _ _ (fun y hy => (hag y hy).trans (hℓ0 y hy)) ⟨(hE.tr hE6).upd hD4', Z ++ [x], by rw [List.map_append]; exact upd_same, by simp; omega, fun a => ?_, hZs.append (.refl _)⟩
      rw [List.mem_append, hZm, List.mem_append, List.mem_singleton]
      constructor
      · rintro (⟨y1, y2⟩ | rfl)
        · exact ⟨.inl y1, y2⟩
        · exact ⟨.inr rfl, z'⟩
      · rintro ⟨y1 | y1, y2⟩
        · exact .inl ⟨y1, y2⟩
        · exact .inr y1
    · have z' : ¬ ∀ c ∈ Sh, x ∉ pr c := fun hn => by
        have : (Sh.filter fun c => (pr c).contains x) = [] := List.filter_eq_nil_iff.mpr fun c hc => by simpa using hn c hc
        rw [this] at z; cases z
      refine hP _ _ (fun y hy => (hag y hy).trans (hℓ0 y hy)) ⟨hE.tr hE6, Z, hE6 _ _ hZ, by simp; omega, fun a => ?_, hZs.trans (List.sublist_append_left _ _)⟩
      rw [hZm, List.mem_append, List.mem_singleton]
      constructor
      · rintro ⟨y1, y2⟩; exact ⟨.inl y1, y2⟩
      · rintro ⟨y1 | rfl, y2⟩
        · exact ⟨y1, y2⟩
        · exact absurd y2 z'
  · rintro ℓ τ ⟨hE, Z, hZ, hZl, hZm, hZs⟩
    refine ⟨hE _ _ hsh5, ?_⟩
    repeat trivial
    intro w hw
    have hw' : τ w = none := hw
    repeat trivial
    refine hQ w _ X Y Z (hE05.tr (hE.tr (Ext.new hw'))) (Three.mk upd_same (upd_new hw' (hE _ _ hX5)) (upd_new hw' (hE _ _ hY)) (upd_new hw' hZ)) ⟨hXS, hYS, hsS.sublist hZs, hXM, hYM, fun a => ?_⟩
    rw [hZm, hsM]
    refine and_congr_right fun _ => ⟨fun h ⟨c, c1, c2, c3⟩ => h c ((hsM c).mpr ⟨c2, c3⟩) c1, fun h c hc hx => h ⟨c, hx, (hsM c).mp hc⟩⟩
end
end
section
section
variable {K τ τ' : LH} {ks : List Int} {pr : Int → List Int} {r : Int → Nat} {O : List Int}
theorem Le.head {a n : Int} (h : Le pr a n) : a = n ∨ ∃ s, a ∈ pr s ∧ Le pr s n := by
  induction h with
  | refl => exact .inl rfl
  | step h hp ih =>
    rename_i p k
    rcases ih with rfl | ⟨s, h1, h2⟩
    · exact .inr ⟨k, hp, .refl k⟩
    · exact .inr ⟨s, h1, h2.step hp⟩
theorem Le.up {a b c : Int} (h : Le pr a b) (k : Le pr b c) : Le pr a c := by
  induction k with
  | refl => exact h
  | step _ hp ih => exact ih.step hp
theorem Oth.down {H : List Int} {a n : Int} (h : Oth pr H n) (k : Le pr a n) : Oth pr H a := by
  obtain ⟨x, h1, h2⟩ := h; exact ⟨x, h1, k.up h2⟩
theorem old_iff (hk : GrOk ks pr) (hr : ∀ k ∈ ks, ∀ p ∈ pr k, r p < r k) {l a : Int} {H : List Int} (hl : l ∈ ks) : Old pr l H a ↔ ∃ n, (Le pr n l ∧ Oth pr H n) ∧ Le pr a n ∧ a ≠ n := by
  constructor
  · rintro ⟨c, c1, c2, c3⟩
    refine ⟨c, ⟨c2, c3⟩, (Le.refl a).step c1, fun z => ?_⟩
    have := hr c (le_mem hk c2 hl) a c1
    rw [z] at this; omega
  · rintro ⟨n, ⟨n1, n2⟩, n3, n4⟩
    rcases n3.head with z | ⟨s, s1, s2⟩
    · exact absurd z n4
    · exact ⟨s, s1, s2.up n1, n2.down s2⟩
set_option maxHeartbeats 8000000 in
theorem C_listed {σ : LS} {ra un re : Nat} {H : List Int} {l : Int} {rk : Int → Int} {ua : Int → Nat} {U : Int → List Int} {Q : LV → LS → Prop} {E : LX → LS → Prop} (hk : GrOk ks pr) (hr : ∀ k ∈ ks, ∀ p ∈ pr k, r p < r k) (hO : ∀ n, n ∈ O ↔ n ∈ ks) (hR : ReadOk σ.heap ks pr ra un O rk ua U) (hl : l ∈ ks) (hre : σ.heap re = some (.list (H.map .int))) (hHk : ∀ n ∈ H, n ∈ ks) (hHl : H.length ≤ 20)
    (hQ : ∀ w τ' X Y Z, Ext σ.heap τ' → Three τ' w X Y Z → Told pr l H X Y Z → Q (.ref w) ⟨σ.loc, τ'⟩) : P_law_listed ad2 [.ref un, .int l, .ref re] Q E σ := by
  refine ⟨_, rfl, ?_⟩
  unfold B_law_listed
  obtain ⟨_, ⟨epu, hu1⟩, hU, _, _, uS, uM⟩ := hR
  have lO : l ∈ O := (hO l).mpr hl
  have lkl : (O.map fun n => (n, LV.ref (ua n))).lookup l = some (.ref (ua l)) := by rw [lookup_map, if_pos lO]
  have hul := hU l lO
  have usm : ∀ n ∈ ks, Sm (U n) := fun n hn b hb => hk.sm b (le_mem hk ((uM n ((hO n).mpr hn) b).mp hb) hn)
  have ull : (U l).length ≤ 20 := ss_len (ss_nodup (uS l lO)) (usm l hl)
  repeat trivial
  intro D1 hD1
  have hD1' : σ.heap D1 = none := hD1
  have n1 : re ≠ D1 := ne_sn hre hD1'
  have n2 : un ≠ D1 := ne_sn hu1 hD1'
  refine comp_go (f := fun n => LV.int n) (xs := H) (fun _ => true) (fun o => .ref (ua o)) (by unfold cap; omega) (fun ℓ' acc => by exact upd_ne n1 hre) (fun o ho acc ℓ' hℓ => ?_) ?_
  · have lku : (O.map fun n => (n, LV.ref (ua n))).lookup o = some (.ref (ua o)) := by rw [lookup_map, if_pos ((hO o).mpr (hHk o ho))]
    refine ⟨fun y => if y = "name" then some (.int o) else ℓ' y, fun y hy => ?_, fun K h => h, fun K h => h, fun hc K h => ?_⟩
    · by_cases z : y = "name"
      · subst z; simp at hy
      · simp only [if_neg z]; exact hℓ y hy
    · repeat trivial
  rw [filter_tt]
  refine C_joined (E := noE) (rws := H.map fun o => (ua o, U o)) (by rw [List.map_map]; exact upd_same) ?_ ?_
  · intro p hp
    obtain ⟨o, ho, rfl⟩ := List.mem_map.mp hp
    have hok := hHk o ho
    exact ⟨upd_new hD1' (hU o ((hO o).mpr hok)), uS o ((hO o).mpr hok), usm o hok⟩
  intro w τ1 W hE1 hw sW mW
  have hE01 : Ext σ.heap τ1 := (Ext.new hD1').tr hE1
  have mW : ∀ a, a ∈ W ↔ Oth pr H a := fun a => by
    rw [mW]
    constructor
    · rintro ⟨p, p1, p2⟩
      obtain ⟨o, ho, rfl⟩ := List.mem_map.mp p1
      exact ⟨o, ho, (uM o ((hO o).mpr (hHk o ho)) a).mp p2⟩
    · rintro ⟨o, o1, o2⟩
      exact ⟨_, List.mem_map_of_mem o1, (uM o ((hO o).mpr (hHk o o1)) a).mpr o2⟩
  have wl : W.length ≤ 20 := ss_len (ss_nodup sW) fun a ha => hk.sm a (Oth.mem hk hHk ((mW a).mp ha))
  have hu2 := hE01 _ _ hu1
  have hul2 := hE01 _ _ hul
  clear hD1 hD1' n1 n2 hE1
  repeat trivial
  refine C_sld (E := noE) (xs := U l) (ys := W) (by exact hul2) (by exact hw) (uS l lO) sW (by omega) (by omega) ?_
  intro m u τ2 hm hu hmu hE2 hτm hτu
  have hE02 := hE01.tr hE2
  have hu3 := hE02 _ _ hu1
  have hul3 := hE02 _ _ hul
  have sX : SS (lessL (U l) W) := ss_less (uS l lO)
  have mX : ∀ a, a ∈ lessL (U l) W ↔ Le pr a l ∧ ¬ Oth pr H a := fun a => by rw [mem_lessL, uM l lO, mW]
  have lX : (lessL (U l) W).length ≤ 20 := Nat.le_trans (List.length_filter_le _ _) ull
  have sY : SS (lessL W (U l)) := ss_less sW
  have mY : ∀ a, a ∈ lessL W (U l) ↔ Oth pr H a ∧ ¬ Le pr a l := fun a => by rw [mem_lessL, uM l lO, mW]
  generalize lessL (U l) W = X at *
  generalize lessL W (U l) = Y at *
  clear hE01 hE2 hu2 hul2 hw
  repeat trivial
  refine C_sld (E := noE) (xs := U l) (ys := X) (by exact hul3) (by exact hτm) (uS l lO) sX (by omega) (by omega) ?_
  intro m2 u2 τ3 hm2 hu2 hmu2 hE3 hτm2 _
  have hE03 := hE02.tr hE3
  have hu4 := hE03 _ _ hu1
  have hX := hE3 _ _ hτm
  have hY := hE3 _ _ hτu
  have sS : SS (lessL (U l) X) := ss_less (uS l lO)
  have mS : ∀ a, a ∈ lessL (U l) X ↔ Le pr a l ∧ Oth pr H a := fun a => by
    rw [mem_lessL, uM l lO, mX]
    exact and_congr_right fun h1 => ⟨fun h => Classical.byContradiction fun z => h ⟨h1, z⟩, fun h ⟨_, z⟩ => z h⟩
  have lS : (lessL (U l) X).length ≤ 20 := Nat.le_trans (List.length_filter_le _ _) ull
  generalize lessL (U l) X = S at *
  clear hE02 hE3 hτm hτu hu3 hul3
  repeat trivial
  intro D2 hD2
  have hD2' : τ3 D2 = none := hD2
  refine compE_go (f := fun n => LV.int n) (fun pre τ' => Ext τ3 τ' ∧ ∃ rws : List (Nat × List Int), τ' D2 = some (.list (rws.map fun p => .ref p.1)) ∧ rws.length = pre.length ∧ (∀ p ∈ rws, τ' p.1 = some (.list (p.2.map .int)) ∧ SS p.2 ∧ Sm p.2 ∧ p.1 ≠ D2) ∧ ∀ a, (∃ p ∈ rws, a ∈ p.2) ↔ ∃ n ∈ pre, a ∈ U n ∧ a ≠ n) ⟨Ext.new hD2', [], upd_same, rfl, by simp, by simp⟩ ?_ ?_
  · rintro P pre x rest ℓ τ he hℓ0 ⟨hE, rws, hZ, hZl, hZp, hZm⟩ hP
    have hxS : x ∈ S := by rw [he]; simp
    have hxk : x ∈ ks := le_mem hk ((mS x).mp hxS).1 hl
    have hxO : x ∈ O := (hO x).mpr hxk
    have lkx : (O.map fun n => (n, LV.ref (ua n))).lookup x = some (.ref (ua x)) := by rw [lookup_map, if_pos hxO]
    have hS5 := hE _ _ hτm2
    have hu5 := hE _ _ hu4
    have hux : τ (ua x) = some (.list ((U x).map .int)) := hE _ _ (hE03 _ _ (hU x hxO))
    have uxl : (U x).length ≤ 20 := ss_len (ss_nodup (uS x hxO)) (usm x hxk)
    have e1 : ℓ "seen" = some (.ref un) := hℓ0 _ rfl
    have hpl : pre.length < 20 := by
      have := congrArg List.length he; simp at this; omega
    have hag : Agree [".0", "name"] ℓ (LS.set ⟨ℓ, τ⟩ "name" (.int x)).loc := fun y hy => by
      by_cases z : y = "name"
      · subst z; simp at hy
      · show (if y = "name" then _ else _) = _
        rw [if_neg z]
    refine ⟨hS5, ?_⟩
    repeat trivial
    intro D5 hD5
    have hD5' : τ D5 = none := hD5
    have n3 : ua x ≠ D5 := ne_sn hux hD5'
    refine comp_go (f := fun n => LV.int n) (fun c => c != x) (fun c => .int c) (by unfold cap; omega) (fun ℓ' acc => by exact upd_ne n3 hux) (fun o ho acc ℓ' hℓ => ?_) ?_
    · refine ⟨fun y => if y = "other" then some (.int o) else ℓ' y, fun y hy => ?_, fun K h => h, fun K h => ?_, fun hc K h => ?_⟩
      · by_cases z : y = "other"
        · subst z; simp at hy
        · simp only [if_neg z]; exact hℓ y hy
      · repeat trivial
      · repeat trivial
    have d5 : D2 ≠ D5 := ne_sn hZ hD5'
    refine lappend_go (xs := rws.map fun p => .ref p.1) (by exact upd_ne d5 hZ) (by simp [cap]; omega) ?_
    have e5 : ((U x).filter fun c => c != x).map (fun c => LV.int c) = ((U x).filter fun c => c != x).map .int := rfl
    refine hP _ _ (fun y hy => (hag y hy).trans (hℓ0 y hy)) ⟨(hE.tr (Ext.new hD5')).upd hD2', rws ++ [(D5, (U x).filter fun c => c != x)], by rw [List.map_append]; exact upd_same, by simp [hZl], fun p hp => ?_, fun a => ?_⟩
    · rcases List.mem_append.mp hp with z | z
      · obtain ⟨p1, p2, p3, p4⟩ := hZp p z
        exact ⟨upd_ne p4 (upd_new hD5' p1), p2, p3, p4⟩
      · rw [List.mem_singleton] at z; subst z
        exact ⟨upd_ne d5.symm upd_same, (uS x hxO).filter _, fun b hb => usm x hxk b (List.mem_filter.mp hb).1, d5.symm⟩
    · constructor
      · rintro ⟨p, hp, ha⟩
        rcases List.mem_append.mp hp with z | z
        · obtain ⟨n, a1, a2⟩ := (hZm a).mp ⟨p, z, ha⟩
          exact ⟨n, List.mem_append_left _ a1, a2⟩
        · rw [List.mem_singleton] at z; subst z
          obtain ⟨a1, a2⟩ := List.mem_filter.mp ha
          exact ⟨x, by simp, a1, by simpa using a2⟩
      · rintro ⟨n, hn, a1, a2⟩
        rcases List.mem_append.mp hn with z | z
        · obtain ⟨p, b1, b2⟩ := (hZm a).mpr ⟨n, z, a1, a2⟩
          exact ⟨p, List.mem_append_left _ b1, b2⟩
        · rw [List.mem_singleton] at z; subst z
          exact ⟨_, List.mem_append_right _ (.head _), List.mem_filter.mpr ⟨a1, by simpa using a2⟩⟩
  · rintro ℓ τ ⟨hE, rws, hZ, hZl, hZp, hZm⟩
    refine ⟨hE _ _ hτm2, ?_⟩
    refine C_joined (E := noE) (rws := rws) (by exact hZ) (fun p hp => ⟨(hZp p hp).1, (hZp p hp).2.1, (hZp p hp).2.2.1⟩) ?_
    intro w2 τ5 OL hE5 hw2 sOL mOL
    have mOL : ∀ a, a ∈ OL ↔ Old pr l H a := fun a => by
      rw [mOL, hZm, old_iff hk hr hl]
      constructor
      · rintro ⟨n, a1, a2, a3⟩
        have hn := (mS n).mp a1
        exact ⟨n, hn, (uM n ((hO n).mpr (le_mem hk hn.1 hl)) a).mp a2, a3⟩
      · rintro ⟨n, hn, a2, a3⟩
        exact ⟨n, (mS n).mpr hn, (uM n ((hO n).mpr (le_mem hk hn.1 hl)) a).mpr a2, a3⟩
    have lOL : OL.length ≤ 20 := ss_len (ss_nodup sOL) fun a ha => by
      obtain ⟨p, p1, p2⟩ := (hZm a).mpr (by
        obtain ⟨n, hn, a2, a3⟩ := (old_iff hk hr hl).mp ((mOL a).mp ha)
        exact ⟨n, (mS n).mpr hn, (uM n ((hO n).mpr (le_mem hk hn.1 hl)) a).mpr a2, a3⟩)
      exact (hZp p p1).2.2.1 a p2
    have hE35 : Ext τ3 τ5 := hE.tr hE5
    repeat trivial
    refine C_sld (E := noE) (xs := S) (ys := OL) (by exact hE35 _ _ hτm2) (by exact hw2) sS sOL (by omega) (by omega) ?_
    intro m6 u6 τ6 _ _ _ hE6 hτ6 _
    have hE36 := hE35.tr hE6
    repeat trivial
    intro w hw
    have hw' : τ6 w = none := hw
    repeat trivial
    refine hQ w _ X Y (lessL S OL) (hE03.tr (hE36.tr (Ext.new hw'))) (Three.mk upd_same (upd_new hw' (hE36 _ _ hX)) (upd_new hw' (hE36 _ _ hY)) (upd_new hw' hτ6)) ⟨sX, sY, ss_less sS, mX, mY, fun a => ?_⟩
    rw [mem_lessL, mS, mOL]
end
end
section
/-- a mark out of three bits -/
def code (a b c : Bool) : Int := if c then 7 else (if a then 1 else 0) + (if b then 2 else 0)
theorem code_or : ∀ a b c a' b' c' : Bool, Builtin.bitOr (code a b c) (code a' b' c') = code (a || a') (b || b') (c || c') := by decide
theorem code_two : ∀ a b : Bool, Builtin.bitOr (code a b false) 2 = code a true false := by decide
noncomputable def bb (p : Prop) : Bool := @decide p (Classical.propDecidable p)
theorem bb_true {p : Prop} : bb p = true ↔ p := by unfold bb; exact @decide_eq_true_iff p (Classical.propDecidable p)
theorem bb_or {p q : Prop} : (bb p || bb q) = bb (p ∨ q) := by
  rw [Bool.eq_iff_iff, Bool.or_eq_true, bb_true, bb_true, bb_true]
theorem bb_of {p : Prop} (h : p) : bb p = true := bb_true.mpr h
theorem bb_not {p : Prop} (h : ¬ p) : bb p = false := by rw [Bool.eq_false_iff]; exact fun z => h (bb_true.mp z)
@[irreducible] noncomputable def cd (p q s : Prop) : Int := code (bb p) (bb q) (bb s)
theorem cd_or {p q s p' q' s' : Prop} : Builtin.bitOr (cd p q s) (cd p' q' s') = cd (p ∨ p') (q ∨ q') (s ∨ s') := by
  unfold cd; rw [code_or, bb_or, bb_or, bb_or]
theorem cd_congr {p q s p' q' s' : Prop} (h : p ↔ p') (k : q ↔ q') (l : s ↔ s') : cd p q s = cd p' q' s' := by
  rw [propext h, propext k, propext l]
theorem cd_two {p q : Prop} : Builtin.bitOr (cd p q False) 2 = cd p True False := by
  unfold cd; rw [bb_not id, code_two, bb_of True.intro]
theorem cd_zero {p q s : Prop} (h : ¬ p) (k : ¬ q) (l : ¬ s) : cd p q s = 0 := by
  unfold cd; rw [bb_not h, bb_not k, bb_not l]; rfl
theorem code_seven : ∀ a b c : Bool, code a b c = 7 ↔ c = true := by decide
theorem code_1 : ∀ a b c : Bool, code a b c = 1 ↔ a = true ∧ ¬ b = true ∧ ¬ c = true := by decide
theorem code_2 : ∀ a b c : Bool, code a b c = 2 ↔ ¬ a = true ∧ b = true ∧ ¬ c = true := by decide
theorem code_3 : ∀ a b c : Bool, code a b c = 3 ↔ a = true ∧ b = true ∧ ¬ c = true := by decide
theorem cd_seven {p q s : Prop} : cd p q s = 7 ↔ s := by unfold cd; exact (code_seven _ _ _).trans bb_true
theorem cd_one {p q s : Prop} : cd p q s = 1 ↔ p ∧ ¬ q ∧ ¬ s := by unfold cd; exact (code_1 _ _ _).trans (and_congr bb_true (and_congr (not_congr bb_true) (not_congr bb_true)))
theorem cd_tw {p q s : Prop} : cd p q s = 2 ↔ ¬ p ∧ q ∧ ¬ s := by unfold cd; exact (code_2 _ _ _).trans (and_congr (not_congr bb_true) (and_congr bb_true (not_congr bb_true)))
theorem cd_three {p q s : Prop} : cd p q s = 3 ↔ p ∧ q ∧ ¬ s := by unfold cd; exact (code_3 _ _ _).trans (and_congr bb_true (and_congr bb_true (not_congr bb_true)))
/-- what a mark is handed on as -/
theorem cd_pass {p q s : Prop} (h : s → p ∧ q) : (if cd p q s = 3 then (7 : Int) else cd p q s) = cd p q (p ∧ q) := by
  by_cases hs : s
  · obtain ⟨h1, h2⟩ := h hs
    rw [if_neg (by rw [cd_seven.mpr hs]; decide), cd_seven.mpr hs]
    exact (cd_seven.mpr ⟨h1, h2⟩).symm
  · by_cases hp : p
    · by_cases hq : q
      · rw [if_pos (cd_three.mpr ⟨hp, hq, hs⟩)]; exact (cd_seven.mpr ⟨hp, hq⟩).symm
      · rw [if_neg (fun z => hq (cd_three.mp z).2.1)]
        exact cd_congr Iff.rfl Iff.rfl ⟨fun z => absurd z hs, fun z => absurd z.2 hq⟩
    · rw [if_neg (fun z => hp (cd_three.mp z).1)]
      exact cd_congr Iff.rfl Iff.rfl ⟨fun z => absurd z hs, fun z => absurd z.1 hp⟩
section
variable {K τ τ' : LH} {ks : List Int} {pr : Int → List Int} {r : Int → Nat} {O : List Int}
/-- marked so far: at the start, or out of one that is done -/
def Mk (pr : Int → List Int) (X0 XA : Int → Prop) (D : List Int) (n : Int) : Prop := X0 n ∨ ∃ d ∈ D, n ∈ pr d ∧ XA d
theorem Mk.nil {X0 XA : Int → Prop} {n : Int} : Mk pr X0 XA [] n ↔ X0 n := by unfold Mk; simp
theorem Mk.snoc {X0 XA : Int → Prop} {D : List Int} {x n : Int} : Mk pr X0 XA (D ++ [x]) n ↔ Mk pr X0 XA D n ∨ (n ∈ pr x ∧ XA x) := by
  unfold Mk
  constructor
  · rintro (h | ⟨d, d1, d2⟩)
    · exact .inl (.inl h)
    · rcases List.mem_append.mp d1 with z | z
      · exact .inl (.inr ⟨d, z, d2⟩)
      · rw [List.mem_singleton] at z; subst z; exact .inr d2
  · rintro ((h | ⟨d, d1, d2⟩) | h)
    · exact .inl h
    · exact .inr ⟨d, List.mem_append_left _ d1, d2⟩
    · exact .inr ⟨x, by simp, h⟩
/-- the state of the search: done D, marked N -/
structure Sea (ks : List Int) (pr : Int → List Int) (l : Int) (H D N : List Int) : Prop where
  nd : N.Nodup
  dn : ∀ d ∈ D, d ∈ N
  dd : D.Nodup
  dA : ∀ d ∈ D, Le pr d l ∨ Oth pr H d
  mem : ∀ n, n ∈ N ↔ (n = l ∨ n ∈ H) ∨ ∃ d ∈ D, n ∈ pr d
section
variable {l : Int} {H D N : List Int} {rk : Int → Int}
theorem Sea.all (h : Sea ks pr l H D N) : ∀ n ∈ N, Le pr n l ∨ Oth pr H n := by
  intro n hn
  rcases (h.mem n).mp hn with (rfl | z) | ⟨d, d1, d2⟩
  · exact .inl (.refl _)
  · exact .inr ⟨n, z, .refl _⟩
  · rcases h.dA d d1 with y | y
    · exact .inl (((Le.refl n).step d2).up y)
    · exact .inr (y.down ((Le.refl n).step d2))
theorem Sea.mks (h : Sea ks pr l H D N) (hk : GrOk ks pr) (hl : l ∈ ks) (hH : ∀ n ∈ H, n ∈ ks) : ∀ n ∈ N, n ∈ ks := fun n hn => by
  rcases h.all n hn with z | z
  · exact le_mem hk z hl
  · exact Oth.mem hk hH z
theorem le_rk (hk : GrOk ks pr) (hrk : ∀ n ∈ ks, ∀ p ∈ pr n, rk p < rk n) {a n : Int} (h : Le pr a n) (hn : n ∈ ks) : rk a ≤ rk n := by
  induction h with
  | refl => exact Int.le_refl _
  | step h hp ih =>
    have h1 := hrk _ hn _ hp
    have h2 := ih (hk.sub _ hn _ hp)
    omega
/-- whatever is above the one that is taken out is done -/
theorem Sea.pop (h : Sea ks pr l H D N) (hk : GrOk ks pr) (hrk : ∀ n ∈ ks, ∀ p ∈ pr n, rk p < rk n) (hN : ∀ n ∈ N, n ∈ ks) {x : Int} (hmax : ∀ n ∈ N, n ∉ D → rk n ≤ rk x) {c a : Int} (hc : Le pr c a) (ha : a ∈ N) (hx : rk x < rk c) : c ∈ D := by
  induction hc with
  | refl => exact Classical.byContradiction fun z => by have := hmax _ ha z; omega
  | @step p k hcp hp ih =>
    have h1 := hrk k (hN k ha) p hp
    have h2 : rk c ≤ rk p := le_rk hk hrk hcp (hk.sub k (hN k ha) p hp)
    have hkD : k ∈ D := Classical.byContradiction fun z => by have := hmax _ ha z; omega
    exact ih ((h.mem p).mpr (.inr ⟨k, hkD, hp⟩))
/-- the mark of the one that is taken out is final -/
theorem Sea.fin (h : Sea ks pr l H D N) (hk : GrOk ks pr) (hl : l ∈ ks) (hH : ∀ n ∈ H, n ∈ ks) (hrk : ∀ n ∈ ks, ∀ p ∈ pr n, rk p < rk n) {x : Int} (hx : x ∈ ks) (hmax : ∀ n ∈ N, n ∉ D → rk n ≤ rk x) :
    (Mk pr (· = l) (fun a => Le pr a l) D x ↔ Le pr x l) ∧ (Mk pr (· ∈ H) (Oth pr H) D x ↔ Oth pr H x) ∧ (Mk pr (fun _ => False) (fun a => Le pr a l ∧ Oth pr H a) D x ↔ Old pr l H x) := by
  have hN := h.mks hk hl hH
  have lN : l ∈ N := (h.mem l).mpr (.inl (.inl rfl))
  refine ⟨⟨?_, fun z => ?_⟩, ⟨?_, fun z => ?_⟩, ⟨?_, ?_⟩⟩
  · rintro (rfl | ⟨d, d1, d2, d3⟩)
    · exact .refl _
    · exact ((Le.refl x).step d2).up d3
  · rcases z.head with rfl | ⟨s, s1, s2⟩
    · exact .inl rfl
    · exact .inr ⟨s, h.pop hk hrk hN hmax s2 lN (hrk s (le_mem hk s2 hl) x s1), s1, s2⟩
  · rintro (z | ⟨d, d1, d2, d3⟩)
    · exact ⟨x, z, .refl _⟩
    · exact d3.down ((Le.refl x).step d2)
  · obtain ⟨a, a1, a2⟩ := z
    rcases a2.head with rfl | ⟨s, s1, s2⟩
    · exact .inl a1
    · exact .inr ⟨s, h.pop hk hrk hN hmax s2 ((h.mem a).mpr (.inl (.inr a1))) (hrk s (le_mem hk s2 (hH a a1)) x s1), s1, a, a1, s2⟩
  · rintro (z | ⟨d, d1, d2, d3, d4⟩)
    · exact z.elim
    · exact ⟨d, d2, d3, d4⟩
  · rintro ⟨c, c1, c2, c3⟩
    exact .inr ⟨c, h.pop hk hrk hN hmax c2 lN (hrk c (le_mem hk c2 hl) x c1), c1, c2, c3⟩
theorem Old.both {x : Int} (h : Old pr l H x) : Le pr x l ∧ Oth pr H x := by
  obtain ⟨c, c1, c2, c3⟩ := h
  exact ⟨((Le.refl x).step c1).up c2, c3.down ((Le.refl x).step c1)⟩
/-- where only settled ones are left, all the others are done -/
theorem Sea.end (h : Sea ks pr l H D N) (hs : ∀ n ∈ N, n ∉ D → Mk pr (fun _ => False) (fun a => Le pr a l ∧ Oth pr H a) D n) {c : Int} (hc : Le pr c l ∨ Oth pr H c) : c ∈ D ∨ Old pr l H c := by
  have key : ∀ {c a : Int}, Le pr c a → a ∈ N → c ∈ D ∨ Old pr l H c := by
    intro c a hc ha
    induction hc with
    | refl =>
      refine Classical.byContradiction fun z => ?_
      · have h1 : c ∉ D := fun y => z (.inl y)
        rcases hs c ha h1 with y | ⟨d, d1, d2, d3, d4⟩
        · exact y
        · exact z (.inr ⟨d, d2, d3, d4⟩)
    | @step p k hcp hp ih =>
      by_cases hkD : k ∈ D
      · exact ih ((h.mem p).mpr (.inr ⟨k, hkD, hp⟩))
      · rcases hs k ha hkD with y | ⟨d, d1, d2, d3, d4⟩
        · exact y.elim
        · have hkk : Le pr k l ∧ Oth pr H k := Old.both ⟨d, d2, d3, d4⟩
          rcases hcp.head with rfl | ⟨s, s1, s2⟩
          · exact .inr ⟨k, hp, hkk⟩
          · exact .inr ⟨s, s1, (s2.step hp).up hkk.1, hkk.2.down (s2.step hp)⟩
  rcases hc with z | ⟨a, a1, a2⟩
  · exact key z ((h.mem l).mpr (.inl (.inl rfl)))
  · exact key a2 ((h.mem a).mpr (.inl (.inr a1)))
/-- the next one is taken out and its own are marked -/
theorem Sea.next (h : Sea ks pr l H D N) {x : Int} {N' : List Int} (hxN : x ∈ N) (hxD : x ∉ D) (nd : N'.Nodup) (hm : ∀ n, n ∈ N' ↔ n ∈ N ∨ n ∈ pr x) : Sea ks pr l H (D ++ [x]) N' := by
  refine ⟨nd, fun d hd => ?_, ?_, fun d hd => ?_, fun n => ?_⟩
  · rcases List.mem_append.mp hd with z | z
    · exact (hm d).mpr (.inl (h.dn d z))
    · rw [List.mem_singleton] at z; subst z; exact (hm d).mpr (.inl hxN)
  · rw [List.nodup_append]
    exact ⟨h.dd, by simp, fun a ha b hb w => by rw [List.mem_singleton] at hb; subst hb; subst w; exact hxD ha⟩
  · rcases List.mem_append.mp hd with z | z
    · exact h.dA d z
    · rw [List.mem_singleton] at z; subst z; exact h.all d hxN
  · rw [hm, h.mem]
    constructor
    · rintro ((z | ⟨d, d1, d2⟩) | z)
      · exact .inl z
      · exact .inr ⟨d, List.mem_append_left _ d1, d2⟩
      · exact .inr ⟨x, by simp, z⟩
    · rintro (z | ⟨d, d1, d2⟩)
      · exact .inl (.inl z)
      · rcases List.mem_append.mp d1 with y | y
        · exact .inl (.inr ⟨d, y, d2⟩)
        · rw [List.mem_singleton] at y; subst y; exact .inr d2
end
end
end
section
theorem not_go {m : LV → LV → PTx Bool} {a b : LV} {QB : Bool → LS → Prop} {E : LX → LS → Prop} {σ : LS} (h : m a b (fun z σ' => QB (!z) σ') E σ) : pnot m a b QB E σ := h
theorem C_heapify' {σ : LS} {h : Nat} {ps : List Pr} {Q : LV → LS → Prop} {E : LX → LS → Prop} (hsz : ps.length < 1000) (hh : σ.heap h = some (.list (ps.map tp)))
    (hQ : ∀ ps' τ', ps'.Perm ps → HeapFrom 0 ps' → upd σ.heap h (.list (ps'.map tp)) = τ' → Q .none ⟨σ.loc, τ'⟩) : P_heapify ad2 [.ref h] Q E σ :=
  C_heapify hsz hh fun ps' a b => hQ ps' _ a b rfl
theorem C_heappush' {σ : LS} {h : Nat} {ps : List Pr} {x : Pr} {Q : LV → LS → Prop} {E : LX → LS → Prop} (hsz : ps.length < 1000) (hh : σ.heap h = some (.list (ps.map tp))) (hi : HeapFrom 0 ps)
    (hQ : ∀ ps' τ', ps'.Perm (x :: ps) → HeapFrom 0 ps' → upd σ.heap h (.list (ps'.map tp)) = τ' → Q .none ⟨σ.loc, τ'⟩) : P_heappush ad2 [.ref h, tp x] Q E σ :=
  C_heappush hsz hh hi fun ps' a b => hQ ps' _ a b rfl
theorem C_heappop' {σ : LS} {h : Nat} {ps : List Pr} {Q : LV → LS → Prop} {E : LX → LS → Prop} (hne : ps ≠ []) (hsz : ps.length < 1000) (hh : σ.heap h = some (.list (ps.map tp))) (hi : HeapFrom 0 ps)
    (hQ : ∀ p ps' τ', (p :: ps').Perm ps → (∀ q ∈ ps, ple p q) → HeapFrom 0 ps' → upd σ.heap h (.list (ps'.map tp)) = τ' → Q (tp p) ⟨σ.loc, τ'⟩) : P_heappop ad2 [.ref h] Q E σ :=
  C_heappop hne hsz hh hi fun p ps' a b c => hQ p ps' _ a b c rfl
theorem disp1_go {mk mv : PTx LV} {Q : LV → LS → Prop} {E : LX → LS → Prop} {σ : LS} (q : ∀ D, σ.heap D = none → mk (fun a σ1 => mv (fun b σ2 => pdset (.ref D) a b (fun _ σ3 => Q (.ref D) σ3) E σ2) E σ1) E ⟨σ.loc, upd σ.heap D (.dict [] 0)⟩) : pdisp [(mk, mv)] Q E σ := q
theorem disp3_go {mk mv mk' mv' mk'' mv'' : PTx LV} {Q : LV → LS → Prop} {E : LX → LS → Prop} {σ : LS} (q : ∀ D, σ.heap D = none → mk (fun a σ1 => mv (fun b σ2 => mk' (fun a' σ3 => mv' (fun b' σ4 => mk'' (fun a'' σ5 => mv'' (fun b'' σ6 => pdset (.ref D) a b (fun _ σ7 => pdset (.ref D) a' b' (fun _ σ8 => pdset (.ref D) a'' b'' (fun _ σ9 => Q (.ref D) σ9) E σ8) E σ7) E σ6) E σ5) E σ4) E σ3) E σ2) E σ1) E ⟨σ.loc, upd σ.heap D (.dict [] 0)⟩) : pdisp [(mk, mv), (mk', mv'), (mk'', mv'')] Q E σ := q
theorem dput_all {f : Int → LV} {N : List Int} {x : Int} {v : LV} : dput (N.map fun n => (n, f n)) x v = (if x ∈ N then N else N ++ [x]).map fun n => (n, if n = x then v else f n) := by
  by_cases h : x ∈ N
  · rw [if_pos h]
    unfold dput
    rw [if_pos, List.map_map]
    · refine List.map_congr_left fun n _ => ?_
      show (if n = x then (n, v) else (n, f n)) = _
      split <;> rfl
    · rw [List.any_map, List.any_eq_true]
      exact ⟨x, h, decide_eq_true rfl⟩
  · rw [if_neg h, dput_map h]
theorem mem_ite {N : List Int} {x n : Int} : n ∈ (if x ∈ N then N else N ++ [x]) ↔ n ∈ N ∨ n = x := by
  split
  · rename_i h
    exact ⟨.inl, fun z => z.elim id fun y => y ▸ h⟩
  · rw [List.mem_append, List.mem_singleton]
theorem nodup_ite {N : List Int} {x : Int} (h : N.Nodup) : (if x ∈ N then N else N ++ [x]).Nodup := by
  split
  · exact h
  · rename_i hx
    rw [List.nodup_append]
    exact ⟨h, by simp, fun a ha b hb w => by rw [List.mem_singleton] at hb; subst hb; subst w; exact hx ha⟩
def k3 : List Int := [1, 2, 3]
theorem mem3 {k : Int} : k ∈ k3 ↔ k = 1 ∨ k = 2 ∨ k = 3 := by simp [k3]
set_option maxHeartbeats 4000000 in
theorem C_told3 {σ : LS} {Q : LV → LS → Prop} {E : LX → LS → Prop}
    (hQ : ∀ td (tl : Int → Nat) τ' ep, Ext σ.heap τ' → σ.heap td = none → (∀ k ∈ k3, σ.heap (tl k) = none) → τ' td = some (.dict (k3.map fun k => (k, .ref (tl k))) ep) → (∀ k ∈ k3, τ' (tl k) = some (.list [])) → (∀ k ∈ k3, ∀ k' ∈ k3, tl k = tl k' → k = k') → (∀ k ∈ k3, tl k ≠ td) → Q (.ref td) ⟨σ.loc, τ'⟩) :
    pdisp [((pret (.int 1)), (pbind (pret []) plist)), ((pret (.int 2)), (pbind (pret []) plist)), ((pret (.int 3)), (pbind (pret []) plist))] Q E σ := by
  refine disp3_go ?_
  intro td htd
  refine list_go (by decide) ?_
  intro l1 hl1
  refine list_go (by decide) ?_
  intro l2 hl2
  refine list_go (by decide) ?_
  intro l3 hl3
  have a1 : td ≠ l1 := ne_sn upd_same hl1
  have a2 : td ≠ l2 := ne_sn (upd_ne a1 upd_same) hl2
  have a3 : td ≠ l3 := ne_sn (upd_ne a2 (upd_ne a1 upd_same)) hl3
  have b2 : l1 ≠ l2 := ne_sn upd_same hl2
  have b3 : l1 ≠ l3 := ne_sn (upd_ne b2 upd_same) hl3
  have c3 : l2 ≠ l3 := ne_sn upd_same hl3
  refine dset_go' (by exact upd_ne a3 (upd_ne a2 (upd_ne a1 upd_same))) (by decide) (fun ea τa ha => ?_)
  refine dset_go' (ep := ea) (by rw [← ha]; exact upd_same) (by exact Nat.le_of_ble_eq_true rfl) (fun eb τb hb => ?_)
  refine dset_go' (ep := eb) (by rw [← hb]; exact upd_same) (by exact Nat.le_of_ble_eq_true rfl) (fun ec τc hc => ?_)
  have f1 : ∀ b o, b ≠ td → upd (upd (upd (upd σ.heap td (.dict [] 0)) l1 (.list [])) l2 (.list [])) l3 (.list []) b = some o → τc b = some o := fun b o hne e => by
    rw [← hc, ← hb, ← ha]
    exact upd_ne hne (upd_ne hne (upd_ne hne e))
  have f0 : ∀ b o, σ.heap b = some o → upd (upd (upd (upd σ.heap td (.dict [] 0)) l1 (.list [])) l2 (.list [])) l3 (.list []) b = some o := fun b o e => upd_new hl3 (upd_new hl2 (upd_new hl1 (upd_new htd e)))
  refine hQ td (fun k => if k = 1 then l1 else if k = 2 then l2 else l3) τc ec (fun b o e => f1 b o (ne_sn e htd) (f0 b o e)) htd (fun k hk => ?_) (by rw [← hc]; exact upd_same) (fun k hk => ?_) (fun k hk k' hk' => ?_) (fun k hk => ?_)
  · rcases mem3.mp hk with rfl | rfl | rfl
    · exact Ext.none (Ext.new htd) hl1
    · exact Ext.none ((Ext.new htd).tr (Ext.new hl1)) hl2
    · exact Ext.none (((Ext.new htd).tr (Ext.new hl1)).tr (Ext.new hl2)) hl3
  · rcases mem3.mp hk with rfl | rfl | rfl
    · exact f1 _ _ a1.symm (upd_ne b3 (upd_ne b2 upd_same))
    · exact f1 _ _ a2.symm (upd_ne c3 upd_same)
    · exact f1 _ _ a3.symm upd_same
  · rcases mem3.mp hk with rfl | rfl | rfl <;> rcases mem3.mp hk' with rfl | rfl | rfl <;> intro z
    · rfl
    · exact absurd z b2
    · exact absurd z b3
    · exact absurd z.symm b2
    · rfl
    · exact absurd z c3
    · exact absurd z.symm b3
    · exact absurd z.symm c3
    · rfl
  · rcases mem3.mp hk with rfl | rfl | rfl
    · exact a1.symm
    · exact a2.symm
    · exact a3.symm
theorem compL_cons {g : LS → Prop} {bind : LV → PTx Unit} {body : PTx Unit} {v : LV} {vs : List LV} {Q : Unit → LS → Prop} {E : LX → LS → Prop} {σ : LS} (h : g σ) (q : bind v (fun _ σ' => body (fun _ σ'' => pcompL g bind body vs Q E σ'') E σ') E σ) : pcompL g bind body (v :: vs) Q E σ := ⟨h, q⟩
theorem compL_nil {g : LS → Prop} {bind : LV → PTx Unit} {body : PTx Unit} {Q : Unit → LS → Prop} {E : LX → LS → Prop} {σ : LS} (h : g σ) (q : Q () σ) : pcompL g bind body [] Q E σ := ⟨h, q⟩
set_option maxHeartbeats 4000000 in
theorem C_sorted3 {σ : LS} {td : Nat} {tl : Int → Nat} {T : Int → List Int} {ep : Nat} {Q : LV → LS → Prop} (e1 : σ.loc "told" = some (.ref td)) (htd : σ.heap td = some (.dict (k3.map fun k => (k, .ref (tl k))) ep)) (hT : ∀ k ∈ k3, σ.heap (tl k) = some (.list ((T k).map .int)) ∧ (T k).length < 64)
    (hQ : ∀ w τ' X Y Z, Ext σ.heap τ' → Three τ' w X Y Z → (X.Perm (T 1) ∧ X.Pairwise (· ≤ ·)) → (Y.Perm (T 2) ∧ Y.Pairwise (· ≤ ·)) → (Z.Perm (T 3) ∧ Z.Pairwise (· ≤ ·)) → Q (.ref w) ⟨σ.loc, τ'⟩) :
    (pcomp (.list []) (pbind (pbind (pbind (pret (.int 1)) fun a => pbind (pbind (pret (.int 2)) fun a => pbind (pbind (pret (.int 3)) fun a => pbind (pret []) fun as => pret (a :: as)) fun as => pret (a :: as)) fun as => pret (a :: as)) ptuple) ptitems) [".0", "mark"] (pset "mark") (fun D => pwhen (pret true) (pemit (pbind (pbind (pbind (pget "told") fun a => pbind (pget "mark") fun b => pdget a b) fun a => pbind (pret []) fun as => pret (a :: as)) psorted) D))) Q noE σ := by
  obtain ⟨h1, n1⟩ := hT 1 (by decide)
  obtain ⟨h2, n2⟩ := hT 2 (by decide)
  obtain ⟨h3, n3⟩ := hT 3 (by decide)
  have k1 : (k3.map fun k => (k, LV.ref (tl k))).lookup 1 = some (.ref (tl 1)) := rfl
  have k2 : (k3.map fun k => (k, LV.ref (tl k))).lookup 2 = some (.ref (tl 2)) := rfl
  have k3' : (k3.map fun k => (k, LV.ref (tl k))).lookup 3 = some (.ref (tl 3)) := rfl
  refine tuple_go (by decide) ?_
  refine titems_go (by decide) ?_
  intro w hw
  have w0 : σ.heap w = none := hw
  have e1' : (if [".0", "mark"].contains "told" = true then none else σ.loc "told") = some (.ref td) := e1
  refine compL_cons True.intro ?_
  have ht1 : upd σ.heap w (.list []) td = _ := upd_new hw htd
  refine get_go (v := .ref td) e1 ?_
  refine get_go (v := .int 1) rfl ?_
  refine dget_go ht1 k1 ?_
  refine sorted_go (is := T 1) (by exact upd_new hw h1) n1 ?_
  intro X pX sX x hx
  have wx : w ≠ x := ne_sn upd_same hx
  refine lappend_go (xs := []) (by exact upd_ne wx upd_same) (by decide) ?_
  refine compL_cons True.intro ?_
  generalize hτ1 : upd _ w (LO.list ([] ++ [LV.ref x])) = τ1
  have g1 : ∀ b o, σ.heap b = some o → τ1 b = some o := fun b o e => by
    rw [← hτ1]; exact upd_ne (ne_sn e w0) (upd_new hx (upd_new hw e))
  have gx : τ1 x = some (.list (X.map .int)) := by rw [← hτ1]; exact upd_ne wx.symm upd_same
  have gw : τ1 w = some (.list [.ref x]) := by rw [← hτ1]; exact upd_same
  clear hτ1 hx hw ht1
  refine get_go (v := .ref td) e1 ?_
  refine get_go (v := .int 2) rfl ?_
  refine dget_go (g1 _ _ htd) k2 ?_
  refine sorted_go (is := T 2) (by exact g1 _ _ h2) n2 ?_
  intro Y pY sY y hy
  have hy' : τ1 y = none := hy
  have wy : w ≠ y := ne_sn gw hy'
  refine lappend_go (xs := [.ref x]) (by exact upd_ne wy gw) (by simp [cap]) ?_
  refine compL_cons True.intro ?_
  generalize hτ2 : upd _ w (LO.list ([LV.ref x] ++ [LV.ref y])) = τ2
  have g2 : ∀ b o, b ≠ w → τ1 b = some o → τ2 b = some o := fun b o hb e => by
    rw [← hτ2]; exact upd_ne hb (upd_new hy' e)
  have gy : τ2 y = some (.list (Y.map .int)) := by rw [← hτ2]; exact upd_ne wy.symm upd_same
  have gx2 := g2 _ _ wx.symm gx
  have gw2 : τ2 w = some (.list [.ref x, .ref y]) := by rw [← hτ2]; exact upd_same
  have g02 : ∀ b o, σ.heap b = some o → τ2 b = some o := fun b o e => g2 b o (ne_sn e w0) (g1 b o e)
  clear hτ2 hy hy' gx gw g1
  refine get_go (v := .ref td) e1 ?_
  refine get_go (v := .int 3) rfl ?_
  refine dget_go (g02 _ _ htd) k3' ?_
  refine sorted_go (is := T 3) (by exact g02 _ _ h3) n3 ?_
  intro Z pZ sZ z hz
  have hz' : τ2 z = none := hz
  have wz : w ≠ z := ne_sn gw2 hz'
  refine lappend_go (xs := [.ref x, .ref y]) (by exact upd_ne wz gw2) (by simp [cap]) ?_
  refine compL_nil True.intro ?_
  refine hQ w _ X Y Z (fun b o e => upd_ne (ne_sn e w0) (upd_new hz' (g02 b o e))) (Three.mk upd_same (upd_ne wx.symm (upd_new hz' gx2)) (upd_ne wy.symm (upd_new hz' gy)) (upd_ne wz.symm upd_same)) ⟨pX, sX⟩ ⟨pY, sY⟩ ⟨pZ, sZ⟩
end
section
section
variable {K τ τ' : LH} {ks : List Int} {pr : Int → List Int} {r : Int → Nat} {O : List Int} {l : Int} {H D N : List Int} {rk : Int → Int}
/-- a mark on its way -/
@[irreducible] noncomputable def mv (pr : Int → List Int) (l : Int) (H D : List Int) (n : Int) : Int := cd (Mk pr (· = l) (fun a => Le pr a l) D n) (Mk pr (· ∈ H) (Oth pr H) D n) (Mk pr (fun _ => False) (fun a => Le pr a l ∧ Oth pr H a) D n)
/-- a mark at the end -/
@[irreducible] noncomputable def fv (pr : Int → List Int) (l : Int) (H : List Int) (n : Int) : Int := cd (Le pr n l) (Oth pr H n) (Old pr l H n)
/-- while the parents of x are gone through -/
@[irreducible] noncomputable def mw (pr : Int → List Int) (l : Int) (H D : List Int) (x : Int) (pre : List Int) (n : Int) : Int := cd (Mk pr (· = l) (fun a => Le pr a l) D n ∨ (n ∈ pre ∧ Le pr x l)) (Mk pr (· ∈ H) (Oth pr H) D n ∨ (n ∈ pre ∧ Oth pr H x)) (Mk pr (fun _ => False) (fun a => Le pr a l ∧ Oth pr H a) D n ∨ (n ∈ pre ∧ Le pr x l ∧ Oth pr H x))
theorem fv_seven {n : Int} : fv pr l H n = 7 ↔ Old pr l H n := by unfold fv; exact cd_seven
theorem fv_one {n : Int} : fv pr l H n = 1 ↔ Le pr n l ∧ ¬ Oth pr H n ∧ ¬ Old pr l H n := by unfold fv; exact cd_one
theorem fv_tw {n : Int} : fv pr l H n = 2 ↔ ¬ Le pr n l ∧ Oth pr H n ∧ ¬ Old pr l H n := by unfold fv; exact cd_tw
theorem fv_three {n : Int} : fv pr l H n = 3 ↔ Le pr n l ∧ Oth pr H n ∧ ¬ Old pr l H n := by unfold fv; exact cd_three
theorem mv_seven {n : Int} : mv pr l H D n = 7 ↔ Mk pr (fun _ => False) (fun a => Le pr a l ∧ Oth pr H a) D n := by unfold mv; exact cd_seven
theorem mv_nil {n : Int} : cd (n = l) (n ∈ H) False = mv pr l H [] n := by unfold mv; exact cd_congr (Mk.nil (X0 := (· = l))).symm (Mk.nil (X0 := (· ∈ H))).symm (Mk.nil (X0 := fun _ => False)).symm
theorem mw_nil {x n : Int} : mw pr l H D x [] n = mv pr l H D n := by
  unfold mw mv; exact cd_congr (by simp) (by simp) (by simp)
theorem mw_end {x n : Int} : mw pr l H D x (pr x) n = mv pr l H (D ++ [x]) n := by
  unfold mw mv; exact cd_congr Mk.snoc.symm Mk.snoc.symm Mk.snoc.symm
theorem mw_snoc {x y n : Int} {pre : List Int} : (if n = y then Builtin.bitOr (mw pr l H D x pre y) (cd (Le pr x l) (Oth pr H x) (Le pr x l ∧ Oth pr H x)) else mw pr l H D x pre n) = mw pr l H D x (pre ++ [y]) n := by
  split
  · rename_i h
    subst h
    unfold mw
    rw [cd_or]
    refine cd_congr ?_ ?_ ?_
    all_goals
      simp only [List.mem_append, List.mem_singleton, or_true, true_and]
      constructor
      · rintro ((h | h) | h)
        · exact .inl h
        · exact .inr h.2
        · exact .inr h
      · rintro (h | h)
        · exact .inl (.inl h)
        · exact .inr h
  · rename_i h
    unfold mw
    exact cd_congr (by simp [h]) (by simp [h]) (by simp [h])
theorem Mk.none (h : Sea ks pr l H D N) {n : Int} (hn : n ∉ N) : mv pr l H D n = 0 := by
  have h0 : ¬ ((n = l ∨ n ∈ H) ∨ ∃ d ∈ D, n ∈ pr d) := fun z => hn ((h.mem n).mpr z)
  unfold mv
  refine cd_zero ?_ ?_ ?_
  · rintro (z | ⟨d, d1, d2, _⟩)
    · exact h0 (.inl (.inl z))
    · exact h0 (.inr ⟨d, d1, d2⟩)
  · rintro (z | ⟨d, d1, d2, _⟩)
    · exact h0 (.inl (.inr z))
    · exact h0 (.inr ⟨d, d1, d2⟩)
  · rintro (z | ⟨d, d1, d2, _⟩)
    · exact z
    · exact h0 (.inr ⟨d, d1, d2⟩)
set_option maxHeartbeats 4000000 in
theorem C_mark1 {σ : LS} {md : Nat} {f : Int → Int} {y v : Int} {N : List Int} {ep : Nat} {Q : LF → LS → Prop} (e3 : σ.loc "marks" = some (.ref md)) (e7 : σ.loc "other" = some (.int y)) (e8 : σ.loc "mark" = some (.int v)) (hmd : σ.heap md = some (.dict (N.map fun n => (n, .int (f n))) ep)) (hf : y ∉ N → f y = 0) (hN : N.length < 1000)
    (hQ : ∀ ep' τ', upd σ.heap md (.dict ((if y ∈ N then N else N ++ [y]).map fun n => (n, .int (if n = y then Builtin.bitOr (f y) (if v = 3 then 7 else v) else f n))) ep') = τ' → Q .next ⟨σ.loc, τ'⟩) :
    (pbind (pbind (pbind (pget "marks") fun a => pbind (pisdict a) fun _ => pbind (pbind (pget "other") fun a => pbind (pbind (pret (.int 0)) fun a => pbind (pret []) fun as => pret (a :: as)) fun as => pret (a :: as)) fun as => pdget2 a as) fun a => pbind (pbind (pbind (pget "mark") fun a => pbind (pret (.int 3)) fun b => peq a b) fun z => fun Q E σ => if z = true then (pret (.int 7)) Q E σ else (pget "mark") Q E σ) fun b => por a b) fun v => pbind ((fun v => pbind (pget "marks") fun a => pbind (pget "other") fun b => pdset a b v) v) fun _ => pret .next) Q noE σ := by
  have lk : ((N.map fun n => (n, LV.int (f n))).lookup y).getD (.int 0) = .int (f y) := by
    rw [lookup_map]
    by_cases h : y ∈ N
    · rw [if_pos h]; rfl
    · rw [if_neg h, hf h]; rfl
  have key : ∀ w : Int, w = Builtin.bitOr (f y) (if v = 3 then 7 else v) → pdset (.ref md) (.int y) (.int w) (fun _ => Q .next) noE σ := by
    rintro w rfl
    refine dset_go' hmd (by simp [cap]; omega) (fun ep' τ' hτ' => hQ ep' τ' ?_)
    rw [dput_all] at hτ'
    rw [← hτ']
    refine congrArg (fun z => upd σ.heap md (.dict z ep')) (List.map_congr_left fun n _ => ?_)
    split <;> rfl
  refine get_go (v := .ref md) e3 ?_
  refine isdict_go hmd ?_
  refine get_go (v := .int y) e7 ?_
  refine dget2_go hmd ?_
  rw [lk]
  refine get_go (v := .int v) e8 ?_
  refine eq_go ?_
  refine if_both (fun z => ?_) (fun z => ?_)
  · have z : v = 3 := by simpa using z
    refine or_go ?_
    refine get_go (v := .ref md) e3 ?_
    refine get_go (v := .int y) e7 ?_
    exact key _ (by rw [if_pos z])
  · have z : ¬ v = 3 := by simpa using z
    refine get_go (v := .int v) e8 ?_
    refine or_go ?_
    refine get_go (v := .ref md) e3 ?_
    refine get_go (v := .int y) e7 ?_
    exact key _ (by rw [if_neg z])
end
end
section
section
variable {K τ τ' : LH} {ks : List Int} {pr : Int → List Int} {r : Int → Nat} {O : List Int} {l : Int} {H D N : List Int} {rk : Int → Int}
set_option maxHeartbeats 8000000 in
theorem C_push {σ : LS} {g ra md hp epg epr ep : Nat} {pa : Int → Nat} {x : Int} {ps : List Pr} {Q : LF → LS → Prop} (hg1 : K g = some (.dict (ks.map fun k => (k, .ref (pa k))) epg)) (hg2 : ∀ k ∈ ks, K (pa k) = some (.list ((pr k).map .int))) (hr1 : K ra = some (.dict (O.map fun n => (n, .int (rk n))) epr)) (kmd : K md = none) (khp : K hp = none) (nmh : md ≠ hp) (hE : Ext K σ.heap)
    (hk : GrOk ks pr) (hO : ∀ n, n ∈ O ↔ n ∈ ks) (hl : l ∈ ks) (hHk : ∀ n ∈ H, n ∈ ks) (hS : Sea ks pr l H D N) (hxN : x ∈ N) (hxD : x ∉ D)
    (e1 : σ.loc "parents" = some (.ref g)) (e2 : σ.loc "ranks" = some (.ref ra)) (e3 : σ.loc "marks" = some (.ref md)) (e4 : σ.loc "heap" = some (.ref hp)) (e8 : σ.loc "mark" = some (.int (fv pr l H x))) (e9 : σ.loc "name" = some (.int x))
    (hmd : σ.heap md = some (.dict (N.map fun n => (n, .int (mv pr l H D n))) ep)) (hhp : σ.heap hp = some (.list (ps.map tp))) (hph : HeapFrom 0 ps) (hq : ∀ q ∈ ps, q.1 = -rk q.2) (hpm : (D ++ [x] ++ ps.map (·.2)).Perm N)
    (hQ : ∀ ℓ' τ' N' ps' ep', Agree ["other"] σ.loc ℓ' → Ext K τ' → (∀ b o, b ≠ md → b ≠ hp → σ.heap b = some o → τ' b = some o) → τ' md = some (.dict (N'.map fun n => (n, .int (mv pr l H (D ++ [x]) n))) ep') → τ' hp = some (.list (ps'.map tp)) → HeapFrom 0 ps' → (∀ q ∈ ps', q.1 = -rk q.2) → (D ++ [x] ++ ps'.map (·.2)).Perm N' → Sea ks pr l H (D ++ [x]) N' → Q .next ⟨ℓ', τ'⟩) :
    (pfor (pbind (pbind (pget "parents") fun a => pbind (pget "name") fun b => pdget a b) pitems) (pset "other") (pseq
  (pif (pbind (pget "other") fun a => pbind (pget "marks") fun b => pdnotin a b) (pbind (pbind (pbind (pget "heap") fun a => pbind (pbind (pbind (pbind (pbind (pbind (pget "ranks") fun a => pbind (pget "other") fun b => pdget a b) pneg) fun a => pbind (pbind (pget "other") fun a => pbind (pret []) fun as => pret (a :: as)) fun as => pret (a :: as)) ptuple) fun a => pbind (pret []) fun as => pret (a :: as)) fun as => pret (a :: as)) (P_heappush ad2)) fun _ => pret .next) (pret .next))
  (pbind (pbind (pbind (pget "marks") fun a => pbind (pisdict a) fun _ => pbind (pbind (pget "other") fun a => pbind (pbind (pret (.int 0)) fun a => pbind (pret []) fun as => pret (a :: as)) fun as => pret (a :: as)) fun as => pdget2 a as) fun a => pbind (pbind (pbind (pget "mark") fun a => pbind (pret (.int 3)) fun b => peq a b) fun z => fun Q E σ => if z = true then (pret (.int 7)) Q E σ else (pget "mark") Q E σ) fun b => por a b) fun v => pbind ((fun v => pbind (pget "marks") fun a => pbind (pget "other") fun b => pdset a b v) v) fun _ => pret .next)) (pret .next)) Q noE σ := by
  have hN := hS.mks hk hl hHk
  have hxk : x ∈ ks := hN x hxN
  have lkx : (ks.map fun k => (k, LV.ref (pa k))).lookup x = some (.ref (pa x)) := by rw [lookup_map, if_pos hxk]
  refine get_go (v := .ref g) e1 ?_
  refine get_go (v := .int x) e9 ?_
  refine dget_go (hE _ _ hg1) lkx ?_
  refine items_go (hE _ _ (hg2 x hxk)) ?_
  refine for_go (f := fun n => LV.int n) (fun pre _ σ' => Agree ["other"] σ.loc σ'.loc ∧ Ext K σ'.heap ∧ (∀ b o, b ≠ md → b ≠ hp → σ.heap b = some o → σ'.heap b = some o) ∧ ∃ N' ps' ep', σ'.heap md = some (.dict (N'.map fun n => (n, .int (mw pr l H D x pre n))) ep') ∧ σ'.heap hp = some (.list (ps'.map tp)) ∧ HeapFrom 0 ps' ∧ (∀ q ∈ ps', q.1 = -rk q.2) ∧ (D ++ [x] ++ ps'.map (·.2)).Perm N' ∧ N'.Nodup ∧ ∀ n, n ∈ N' ↔ n ∈ N ∨ n ∈ pre) (pr x) ⟨fun y hy => rfl, hE, fun b o _ _ e => e, N, ps, ep, ?_, hhp, hph, hq, hpm, hS.nd, by simp⟩ ?_ ?_
  · simp only [mw_nil]; exact hmd
  · rintro P pre y rest ⟨ℓ, τ⟩ he ⟨hag, hE', hF, N', ps', ep', h1, h2, h3, h4, h5, h6, h7⟩ hP
    simp only at hag hE' hF h1 h2
    have hy : y ∈ pr x := by rw [he]; simp
    have hyk : y ∈ ks := hk.sub x hxk y hy
    have f2 : ℓ "ranks" = some (.ref ra) := (hag _ rfl).trans e2
    have f3 : ℓ "marks" = some (.ref md) := (hag _ rfl).trans e3
    have f4 : ℓ "heap" = some (.ref hp) := (hag _ rfl).trans e4
    have f8 : ℓ "mark" = some (.int (fv pr l H x)) := (hag _ rfl).trans e8
    have hNl : N'.length ≤ 20 := ss_len h6 fun n hn => by
      rcases (h7 n).mp hn with z | z
      · exact hk.sm n (hN n z)
      · exact hk.sm n (hk.sub x hxk n (by rw [he]; exact List.mem_append_left _ z))
    have hpl : ps'.length ≤ 20 := by
      have := h5.length_eq; simp at this; omega
    have lkr : (O.map fun n => (n, LV.int (rk n))).lookup y = some (.int (rk y)) := by rw [lookup_map, if_pos ((hO y).mpr hyk)]
    have hr' := hE' _ _ hr1
    have hag' : Agree ["other"] σ.loc (LS.set ⟨ℓ, τ⟩ "other" (.int y)).loc := fun w hw => by
      refine Eq.trans ?_ (hag w hw)
      by_cases z : w = "other"
      · subst z; simp at hw
      · show (if w = "other" then _ else _) = _
        rw [if_neg z]
    have hw0 : y ∉ N' → mw pr l H D x pre y = 0 := fun hn => by
      have hn1 : y ∉ N := fun z => hn ((h7 y).mpr (.inl z))
      have hn2 : y ∉ pre := fun z => hn ((h7 y).mpr (.inr z))
      have hz := Mk.none hS hn1
      rw [← hz]
      unfold mw mv
      exact cd_congr (by simp [hn2]) (by simp [hn2]) (by simp [hn2])
    have close : ∀ (ps8 : List Pr) (τ8 : LH), τ8 hp = some (.list (ps8.map tp)) → HeapFrom 0 ps8 → (∀ q ∈ ps8, q.1 = -rk q.2) → (D ++ [x] ++ ps8.map (·.2)).Perm (if y ∈ N' then N' else N' ++ [y]) → Ext K τ8 → (∀ b o, b ≠ md → b ≠ hp → σ.heap b = some o → τ8 b = some o) → ∀ ep9 τ9, upd τ8 md (.dict ((if y ∈ N' then N' else N' ++ [y]).map fun n => (n, .int (if n = y then Builtin.bitOr (mw pr l H D x pre y) (if fv pr l H x = 3 then 7 else fv pr l H x) else mw pr l H D x pre n))) ep9) = τ9 → P ⟨(LS.set ⟨ℓ, τ⟩ "other" (.int y)).loc, τ9⟩ := by
      intro ps8 τ8 g1 g2 g3 g4 g5 g6 ep9 τ9 hτ9
      have e : (if fv pr l H x = 3 then (7 : Int) else fv pr l H x) = cd (Le pr x l) (Oth pr H x) (Le pr x l ∧ Oth pr H x) := by unfold fv; exact cd_pass Old.both
      rw [e] at hτ9
      simp only [mw_snoc] at hτ9
      refine hP _ ⟨hag', by rw [← hτ9]; exact g5.upd kmd, fun b o b1 b2 hb => by rw [← hτ9]; exact upd_ne b1 (g6 b o b1 b2 hb), (if y ∈ N' then N' else N' ++ [y]), ps8, ep9, by rw [← hτ9]; exact upd_same, by rw [← hτ9]; exact upd_ne nmh.symm g1, g2, g3, g4, nodup_ite h6, fun n => ?_⟩
      rw [mem_ite, h7, List.mem_append, List.mem_singleton, or_assoc]
    clear hP
    refine ⟨hE' _ _ (hg2 x hxk), ?_⟩
    repeat trivial
    by_cases hyN : y ∈ N'
    · refine if_false' (by rw [lookup_map, if_pos hyN]; rfl) ?_
      refine C_mark1 (f := mw pr l H D x pre) (v := fv pr l H x) (y := y) f3 rfl f8 (by exact h1) hw0 (by omega) ?_
      intro ep9 τ9 hτ9
      exact close ps' τ h2 h3 h4 (by rw [if_pos hyN]; exact h5) hE' hF ep9 τ9 hτ9
    · refine if_true' (by rw [lookup_map, if_neg hyN]; rfl) ?_
      repeat trivial
      refine C_heappush' (E := noE) (x := (-rk y, y)) (ps := ps') (by omega) (by exact h2) h3 ?_
      intro ps8 τ8 p1 p2 hτ8
      refine C_mark1 (f := mw pr l H D x pre) (v := fv pr l H x) (y := y) f3 rfl f8 (by rw [← hτ8]; exact upd_ne nmh h1) hw0 (by omega) ?_
      intro ep9 τ9 hτ9
      refine close ps8 τ8 (by rw [← hτ8]; exact upd_same) p2 (fun q hq => ?_) ?_ (by rw [← hτ8]; exact hE'.upd khp) (fun b o b1 b2 hb => by rw [← hτ8]; exact upd_ne b2 (hF b o b1 b2 hb)) ep9 τ9 hτ9
      · rcases List.mem_cons.mp (p1.mem_iff.mp hq) with z | z
        · subst z; rfl
        · exact h4 q z
      · rw [if_neg hyN]
        have q1 : (ps8.map (·.2)).Perm (y :: ps'.map (·.2)) := p1.map (fun q : Pr => q.2)
        refine (List.Perm.append_left _ q1).trans ?_
        refine List.perm_middle.trans ?_
        exact (List.Perm.cons y h5).trans (List.perm_append_comm (l₁ := [y]))
  · rintro ⟨ℓ, τ⟩ ⟨hag, hE', hF, N', ps', ep', h1, h2, h3, h4, h5, h6, h7⟩
    simp only at hag hE' hF h1 h2
    simp only [mw_end] at h1
    refine ⟨hE' _ _ (hg2 x hxk), ?_⟩
    exact hQ ℓ τ N' ps' ep' hag hE' hF h1 h2 h3 h4 h5 (hS.next hxN hxD h6 h7)
end
end
section
theorem next_go {K : LF → LS → Prop} {E : LX → LS → Prop} {σ : LS} (q : K .next σ) : pret LF.next K E σ := q
theorem bind_go {α β : Type} {m : PTx α} {f : α → PTx β} {Q : β → LS → Prop} {E : LX → LS → Prop} {σ : LS} (q : m (fun a σ' => f a Q E σ') E σ) : pbind m f Q E σ := q
section
variable {K τ τ' : LH} {ks : List Int} {pr : Int → List Int} {r : Int → Nat} {O : List Int} {l : Int} {H D N : List Int} {rk : Int → Int}
set_option maxHeartbeats 16000000 in
theorem C_marked {σ : LS} {g ra un re : Nat} {ua : Int → Nat} {U : Int → List Int} {Q : LV → LS → Prop} {E : LX → LS → Prop} (hg : Gr σ.heap g ks pr) (hk : GrOk ks pr) (hO : ∀ n, n ∈ O ↔ n ∈ ks) (hR : ReadOk σ.heap ks pr ra un O rk ua U) (hl : l ∈ ks) (hre : σ.heap re = some (.list (H.map .int))) (hHk : ∀ n ∈ H, n ∈ ks) (hHl : H.length ≤ 20)
    (hQ : ∀ w τ' X Y Z, Ext σ.heap τ' → Three τ' w X Y Z → Told pr l H X Y Z → Q (.ref w) ⟨σ.loc, τ'⟩) : P_law_marked ad2 [.ref g, .ref ra, .int l, .ref re] Q E σ := by
  refine ⟨_, rfl, ?_⟩
  unfold B_law_marked
  obtain ⟨⟨epr, hr1⟩, _, _, _, hR5, _, _⟩ := hR
  obtain ⟨pa, epg, hg1, hg2⟩ := hg
  have hrk : ∀ n ∈ ks, ∀ p ∈ pr n, rk p < rk n := fun n hn => hR5 n ((hO n).mpr hn)
  have hkl := ss_len hk.nodup hk.sm
  refine disp1_go ?_
  intro md hmd
  have kmd : σ.heap md = none := hmd
  repeat trivial
  refine dset_go' (by exact upd_same) (by decide) (fun ep1 τ1 hτ1 => ?_)
  have hE1 : Ext σ.heap τ1 := by rw [← hτ1]; exact (Ext.rfl'.upd kmd).upd kmd
  have hm1 : τ1 md = some (.dict [(l, .int 1)] ep1) := by rw [← hτ1]; exact upd_same
  have hre1 := hE1 _ _ hre
  clear hτ1
  repeat trivial
  refine for_go (f := fun n => LV.int n) (fun pre _ σ' => σ'.loc "parents" = some (.ref g) ∧ σ'.loc "ranks" = some (.ref ra) ∧ σ'.loc "marks" = some (.ref md) ∧ Ext σ.heap σ'.heap ∧ ∃ N ep, σ'.heap md = some (.dict (N.map fun n => (n, .int (cd (n = l) (n ∈ pre) False))) ep) ∧ N.Nodup ∧ ∀ n, n ∈ N ↔ n = l ∨ n ∈ pre) H ⟨rfl, rfl, rfl, hE1, [l], ep1, ?_, by simp, by simp⟩ ?_ ?_
  · have : cd (l = l) (l ∈ ([] : List Int)) False = 1 := cd_one.mpr ⟨rfl, by simp, id⟩
    rw [List.map_cons, List.map_nil, this]
    exact hm1
  · rintro P pre x rest ⟨ℓ, τ⟩ he ⟨e1, e2, e3, hE, N, ep, hm, hN, hNm⟩ hP
    simp only at e1 e2 e3 hE hm
    have hre2 := hE _ _ hre
    have hNl : N.length ≤ 20 := ss_len hN fun n hn => hk.sm n (by
      rcases (hNm n).mp hn with rfl | z
      · exact hl
      · exact hHk n (by rw [he]; exact List.mem_append_left _ z))
    have lk : ((N.map fun n => (n, LV.int (cd (n = l) (n ∈ pre) False))).lookup x).getD (.int 0) = .int (cd (x = l) (x ∈ pre) False) := by
      rw [lookup_map]
      by_cases h : x ∈ N
      · rw [if_pos h]; rfl
      · rw [if_neg h, cd_zero (fun z => h ((hNm x).mpr (.inl z))) (fun z => h ((hNm x).mpr (.inr z))) id]; rfl
    refine ⟨hre2, ?_⟩
    repeat trivial
    rw [lk]
    repeat trivial
    refine dset_go' (by exact hm) (by simp [cap]; omega) (fun ep' τ' hτ' => ?_)
    rw [dput_all, cd_two] at hτ'
    refine hP _ ⟨e1, e2, e3, by rw [← hτ']; exact hE.upd kmd, (if x ∈ N then N else N ++ [x]), ep', ?_, nodup_ite hN, fun n => ?_⟩
    · rw [← hτ']
      refine upd_same.trans ?_
      refine congrArg (fun z => some (LO.dict z ep')) (List.map_congr_left fun n _ => ?_)
      by_cases hn : n = x
      · subst hn
        rw [if_pos rfl, cd_congr (p' := n = l) (q' := n ∈ pre ++ [n]) (s' := False) Iff.rfl (by simp) Iff.rfl]
      · rw [if_neg hn, cd_congr (p' := n = l) (q' := n ∈ pre ++ [x]) (s' := False) Iff.rfl (by simp [hn]) Iff.rfl]
    · rw [mem_ite, hNm, List.mem_append, List.mem_singleton, or_assoc]
  · rintro ⟨ℓ, τ⟩ ⟨e1, e2, e3, hE, N, ep, hm, hN, hNm⟩
    simp only at e1 e2 e3 hE hm
    have hNk : ∀ n ∈ N, n ∈ ks := fun n hn => by
      rcases (hNm n).mp hn with rfl | z
      · exact hl
      · exact hHk n z
    have hNl : N.length ≤ 20 := ss_len hN fun n hn => hk.sm n (hNk n hn)
    refine ⟨hE _ _ hre, ?_⟩
    repeat trivial
    intro hp hhp
    have hhp' : τ hp = none := hhp
    have khp : σ.heap hp = none := hE.none hhp'
    have nmh : md ≠ hp := ne_sn hm hhp'
    have hr2 := hE _ _ hr1
    have nrh : ra ≠ hp := ne_sn hr2 hhp'
    rw [List.map_map]
    refine comp_go (f := fun n => LV.int n) (xs := N) (fun _ => true) (fun n => tp (-rk n, n)) (by unfold cap; omega) (fun ℓ' acc => by exact upd_ne nmh hm) (fun o ho acc ℓ' hℓ => ?_) ?_
    · have lkr : (O.map fun n => (n, LV.int (rk n))).lookup o = some (.int (rk o)) := by rw [lookup_map, if_pos ((hO o).mpr (hNk o ho))]
      refine ⟨fun y => if y = "name" then some (.int o) else ℓ' y, fun y hy => ?_, fun K h => h, fun K h => h, fun hc K h => ?_⟩
      · by_cases z : y = "name"
        · subst z; simp at hy
        · simp only [if_neg z]; exact hℓ y hy
      · repeat trivial
    rw [filter_tt]
    have e0 : (N.map fun n => tp (-rk n, n)) = (N.map fun n => (-rk n, n)).map tp := by rw [List.map_map]; rfl
    rw [e0]
    repeat trivial
    refine C_heapify' (E := noE) (ps := N.map fun n => (-rk n, n)) (by simp; omega) (by exact upd_same) ?_
    intro ps τ2 hpm hph hτ2
    have hE2 : Ext σ.heap τ2 := by rw [← hτ2]; exact (hE.upd khp).upd khp
    have hp2 : τ2 hp = some (.list (ps.map tp)) := by rw [← hτ2]; exact upd_same
    have hm2 : τ2 md = some (.dict (N.map fun n => (n, .int (cd (n = l) (n ∈ H) False))) ep) := by rw [← hτ2]; exact upd_ne nmh (upd_ne nmh hm)
    clear hτ2 hhp hhp' hm e0
    repeat trivial
    refine C_told3 (E := noE) ?_
    intro td tl τ3 ep3 hE3 htd0 htl0 htd htl tinj ttd
    have hE23 : Ext τ2 τ3 := hE3
    have htd0 : τ2 td = none := htd0
    have htl0 : ∀ k ∈ k3, τ2 (tl k) = none := htl0
    have ktd : σ.heap td = none := hE2.none htd0
    have ktl : ∀ k ∈ k3, σ.heap (tl k) = none := fun k hk' => hE2.none (htl0 k hk')
    have mtd : md ≠ td := ne_sn hm2 htd0
    have ptd : hp ≠ td := ne_sn hp2 htd0
    have mtl : ∀ k ∈ k3, md ≠ tl k := fun k hk' => ne_sn hm2 (htl0 k hk')
    have ptl : ∀ k ∈ k3, hp ≠ tl k := fun k hk' => ne_sn hp2 (htl0 k hk')
    have hE03 := hE2.tr hE23
    have hp3 := hE23 _ _ hp2
    have hm3 := hE23 _ _ hm2
    clear hE3 htl0 htd0 hp2 hm2 hE23 hE2 hre1 hE1 hm1
    refine while_go (fun m σ' => ∃ (D N : List Int) (ps : List Pr) (T : Int → List Int) (ep : Nat), ks.length - D.length = m ∧ σ'.loc "parents" = some (.ref g) ∧ σ'.loc "ranks" = some (.ref ra) ∧ σ'.loc "marks" = some (.ref md) ∧ σ'.loc "heap" = some (.ref hp) ∧ σ'.loc "told" = some (.ref td) ∧ Ext σ.heap σ'.heap ∧ σ'.heap md = some (.dict (N.map fun n => (n, .int (mv pr l H D n))) ep) ∧ σ'.heap hp = some (.list (ps.map tp)) ∧ HeapFrom 0 ps ∧ (∀ q ∈ ps, q.1 = -rk q.2) ∧ (D ++ ps.map (·.2)).Perm N ∧ Sea ks pr l H D N ∧ σ'.heap td = some (.dict (k3.map fun k => (k, .ref (tl k))) ep3) ∧ ∀ k ∈ k3, σ'.heap (tl k) = some (.list ((T k).map .int)) ∧ (T k).Nodup ∧ ∀ a, a ∈ T k ↔ a ∈ D ∧ fv pr l H a = k) ks.length ?_ ?_
    · refine ⟨[], N, ps, fun _ => [], ep, rfl, e1, e2, e3, rfl, rfl, hE03, ?_, hp3, hph, fun q hq => ?_, ?_, ⟨hN, by simp, by simp, by simp, fun n => by rw [hNm]; simp⟩, htd, fun k hk' => ⟨htl k hk', by simp, by simp⟩⟩
      · refine hm3.trans ?_
        refine congrArg (fun z => some (LO.dict z ep)) (List.map_congr_left fun n _ => ?_)
        exact congrArg (fun z => (n, LV.int z)) mv_nil
      · obtain ⟨n, _, rfl⟩ := List.mem_map.mp (hpm.mem_iff.mp hq); rfl
      · have := hpm.map (fun q : Pr => q.2)
        rw [List.map_map] at this
        have e : (N.map ((fun x : Pr => x.2) ∘ fun n => (-rk n, n))) = N := (List.map_congr_left fun _ _ => rfl).trans (List.map_id N)
        rw [e] at this
        exact this
    · clear hpm hph hp3 hm3 hE03 htl htd hN hNm hNk hNl e1 e2 e3 hE hr2 nrh
      rintro P m ⟨ℓ, τ⟩ ⟨D, N, ps, T, ep, hmm, e1, e2, e3, e4, e5, hE, hm, hhp, hph, hq, hpm, hS, htd, hT⟩ hP
      simp only at e1 e2 e3 e4 e5 hE hm hhp htd hT
      have hNk := hS.mks hk hl hHk
      have hNl : N.length ≤ 20 := ss_len hS.nd fun n hn => hk.sm n (hNk n hn)
      have hpl : ps.length ≤ 20 := by
        have := hpm.length_eq; simp at this; omega
      have hDk : D.length ≤ ks.length := hS.dd.length_le_of_subset fun a ha => hNk a (hS.dn a ha)
      have hpN : ∀ q ∈ ps, q.2 ∈ N := fun q hq => hpm.mem_iff.mp (List.mem_append_right _ (List.mem_map_of_mem hq))
      repeat trivial
      intro Dc hDc
      have hDc' : τ Dc = none := hDc
      have d1 : hp ≠ Dc := ne_sn hhp hDc'
      have d2 : md ≠ Dc := ne_sn hm hDc'
      refine comp_go (f := tp) (xs := ps) (fun q => mv pr l H D q.2 != 7) (fun q => .int q.2) (by unfold cap; omega) (fun ℓ' acc => by exact upd_ne d1 hhp) (fun o ho acc ℓ' hℓ => ?_) ?_
      · have lkm : (N.map fun n => (n, LV.int (mv pr l H D n))).lookup o.2 = some (.int (mv pr l H D o.2)) := by rw [lookup_map, if_pos (hpN o ho)]
        refine ⟨(LS.set (LS.set ⟨ℓ', τ⟩ "rank" (.int o.1)) "name" (.int o.2)).loc, fun y hy => ?_, fun K h => ⟨⟨_, rfl, rfl⟩, h⟩, fun K h => ?_, fun hc K h => ?_⟩
        · show (if y = "name" then _ else if y = "rank" then _ else ℓ' y) = _
          by_cases z : y = "name"
          · subst z; simp at hy
          · by_cases z2 : y = "rank"
            · subst z2; simp at hy
            · simp only [if_neg z, if_neg z2]; exact hℓ y hy
        · repeat trivial
        · repeat trivial
      repeat trivial
      intro em hem
      refine not_go ?_
      refine leq0_go (by exact upd_new hem upd_same) (by exact upd_same) ?_
      generalize hτ6 : upd _ em (LO.list []) = τ6
      have hE6 : Ext τ τ6 := by rw [← hτ6]; exact (Ext.new hDc').tr (Ext.new hem)
      clear hτ6 hem hDc hDc' d1 d2
      have hE06 := hE.tr hE6
      refine if_both (fun z => ?_) (fun z => ?_)
      · have hne : ps ≠ [] := fun y => by rw [y] at z; simp at z
        clear z
        repeat trivial
        refine C_heappop' (E := noE) (ps := ps) hne (by omega) (by exact hE6 _ _ hhp) hph ?_
        intro x ps' τ7 hx1 hx2 hx3 hτ7
        have hτ7 : upd τ6 hp (.list (ps'.map tp)) = τ7 := hτ7
        have hE7 : Ext σ.heap τ7 := by rw [← hτ7]; exact hE06.upd khp
        have hm7 : τ7 md = some (.dict (N.map fun n => (n, .int (mv pr l H D n))) ep) := by rw [← hτ7]; exact upd_ne nmh (hE6 _ _ hm)
        have hp7 : τ7 hp = some (.list (ps'.map tp)) := by rw [← hτ7]; exact upd_same
        have ht7 : τ7 td = some (.dict (k3.map fun k => (k, .ref (tl k))) ep3) := by rw [← hτ7]; exact upd_ne ptd.symm (hE6 _ _ htd)
        have hl7 : ∀ k ∈ k3, τ7 (tl k) = some (.list ((T k).map .int)) := fun k hk' => by rw [← hτ7]; exact upd_ne (ptl k hk').symm (hE6 _ _ (hT k hk').1)
        clear hτ7
        have hxp : x ∈ ps := hx1.mem_iff.mp (.head _)
        have hx0 := hq x hxp
        have hxN := hpN x hxp
        have hxk := hNk _ hxN
        have hperm : (D ++ x.2 :: ps'.map (·.2)).Perm N := (List.Perm.append_left D (hx1.map (fun q : Pr => q.2))).trans hpm
        have hndp := hperm.nodup_iff.mpr hS.nd
        have hxD : x.2 ∉ D := fun z => by
          rw [List.nodup_append] at hndp
          exact hndp.2.2 _ z _ (.head _) rfl
        have hmax : ∀ n ∈ N, n ∉ D → rk n ≤ rk x.2 := fun n hn hnD => by
          rcases List.mem_append.mp (hpm.mem_iff.mpr hn) with y | y
          · exact absurd y hnD
          · obtain ⟨q, q1, rfl⟩ := List.mem_map.mp y
            have h1 := hx2 q q1
            have h2 := hq q q1
            unfold ple at h1; omega
        obtain ⟨m1, m2, m3⟩ := hS.fin hk hl hHk hrk hxk hmax
        have hfin : mv pr l H D x.2 = fv pr l H x.2 := by unfold mv fv; exact cd_congr m1 m2 m3
        have lkx : (N.map fun n => (n, LV.int (mv pr l H D n))).lookup x.2 = some (.int (fv pr l H x.2)) := by rw [lookup_map, if_pos hxN, hfin]
        have hpm6 : (D ++ [x.2] ++ ps'.map (·.2)).Perm N := by rw [List.append_assoc]; exact hperm
        have hq6 : ∀ q ∈ ps', q.1 = -rk q.2 := fun q hq' => hq q (hx1.mem_iff.mp (.tail _ hq'))
        have hDl : D.length < ks.length := by
          have : (D ++ [x.2]).length ≤ ks.length := List.Nodup.length_le_of_subset (by
            rw [List.nodup_append]
            exact ⟨hS.dd, by simp, fun a ha b hb w => by rw [List.mem_singleton] at hb; subst hb; subst w; exact hxD ha⟩) fun a ha => by
              rcases List.mem_append.mp ha with y | y
              · exact hNk a (hS.dn a y)
              · rw [List.mem_singleton] at y; exact y ▸ hxk
          simp at this; omega
        have fin : ∀ (T' : Int → List Int) (τ8 : LH) (ℓ9 : String → Option LV) (τ9 : LH) N' ps9 ep9, Agree ["other"] (LS.set (LS.set ⟨ℓ, τ6⟩ "name" (.int x.2)) "mark" (.int (fv pr l H x.2))).loc ℓ9 → Ext σ.heap τ9 → (∀ b o, b ≠ md → b ≠ hp → τ8 b = some o → τ9 b = some o) → τ9 md = some (.dict (N'.map fun n => (n, .int (mv pr l H (D ++ [x.2]) n))) ep9) → τ9 hp = some (.list (ps9.map tp)) → HeapFrom 0 ps9 → (∀ q ∈ ps9, q.1 = -rk q.2) → (D ++ [x.2] ++ ps9.map (·.2)).Perm N' → Sea ks pr l H (D ++ [x.2]) N' → τ8 td = some (.dict (k3.map fun k => (k, .ref (tl k))) ep3) → (∀ k ∈ k3, τ8 (tl k) = some (.list ((T' k).map .int)) ∧ (T' k).Nodup ∧ ∀ a, a ∈ T' k ↔ a ∈ D ++ [x.2] ∧ fv pr l H a = k) → P ⟨ℓ9, τ9⟩ := by
          intro T' τ8 ℓ9 τ9 N' ps9 ep9 hag hE9 hF h1 h2 h3 h4 h5 h6 h7 h8
          refine hP _ _ ?_ ⟨D ++ [x.2], N', ps9, T', ep9, rfl, (hag _ rfl).trans e1, (hag _ rfl).trans e2, (hag _ rfl).trans e3, (hag _ rfl).trans e4, (hag _ rfl).trans e5, hE9, h1, h2, h3, h4, h5, h6, hF _ _ mtd.symm ptd.symm h7, fun k hk' => ⟨hF _ _ (mtl k hk').symm (ptl k hk').symm (h8 k hk').1, (h8 k hk').2⟩⟩
          rw [List.length_append, List.length_singleton]; omega
        clear hP
        refine tget_go (v := .int x.2) (by decide) (by simp [tp]) (by rfl) ?_
        repeat trivial
        refine if_both (fun z => ?_) (fun z => ?_)
        · have z : fv pr l H x.2 ≠ 7 := by simpa using z
          have hk3 : fv pr l H x.2 ∈ k3 := by
            have hno : ¬ Old pr l H x.2 := fun y => z (fv_seven.mpr y)
            rw [mem3]
            rcases hS.all x.2 hxN with y | y
            · by_cases y2 : Oth pr H x.2
              · exact .inr (.inr (fv_three.mpr ⟨y, y2, hno⟩))
              · exact .inl (fv_one.mpr ⟨y, y2, hno⟩)
            · by_cases y2 : Le pr x.2 l
              · exact .inr (.inr (fv_three.mpr ⟨y2, y, hno⟩))
              · exact .inr (.inl (fv_tw.mpr ⟨y2, y, hno⟩))
          have lkt : (k3.map fun k => (k, LV.ref (tl k))).lookup (fv pr l H x.2) = some (.ref (tl (fv pr l H x.2))) := by rw [lookup_map, if_pos hk3]
          have htx := hl7 _ hk3
          obtain ⟨_, tn, tm⟩ := hT _ hk3
          have tlen : (T (fv pr l H x.2)).length ≤ 20 := by
            have : (T (fv pr l H x.2)).length ≤ ks.length := tn.length_le_of_subset fun a ha => hNk a (hS.dn a ((tm a).mp ha).1)
            omega
          refine get_go (v := .ref td) e5 ?_
          refine get_go (v := .int (fv pr l H x.2)) rfl ?_
          refine dget_go (by exact ht7) lkt ?_
          refine islist_go (by exact htx) ?_
          refine get_go (v := .int x.2) rfl ?_
          refine lappend_go (xs := (T (fv pr l H x.2)).map .int) (by exact htx) (by simp [cap]; omega) ?_
          generalize hτ8 : upd _ (tl (fv pr l H x.2)) (LO.list ((T (fv pr l H x.2)).map LV.int ++ [LV.int x.2])) = τ8
          have hτ8 : upd τ7 (tl (fv pr l H x.2)) (LO.list ((T (fv pr l H x.2)).map LV.int ++ [LV.int x.2])) = τ8 := hτ8
          refine C_push (x := x.2) (ps := ps') hg1 hg2 hr1 kmd khp nmh (by rw [← hτ8]; exact hE7.upd (ktl _ hk3)) hk hO hl hHk hS hxN hxD e1 e2 e3 e4 rfl rfl (by rw [← hτ8]; exact upd_ne (mtl _ hk3) hm7) (by rw [← hτ8]; exact upd_ne (ptl _ hk3) hp7) hx3 hq6 hpm6 ?_
          intro ℓ9 τ9 N' ps9 ep9 c1 c2 c3 c4 c5 c6 c7 c8 c9
          refine fin (fun k => if k = fv pr l H x.2 then T k ++ [x.2] else T k) τ8 ℓ9 τ9 N' ps9 ep9 c1 c2 c3 c4 c5 c6 c7 c8 c9 (by rw [← hτ8]; exact upd_ne (ttd _ hk3).symm ht7) (fun k hk' => ?_)
          by_cases hkx : k = fv pr l H x.2
          · subst hkx
            simp only [if_true]
            refine ⟨by rw [← hτ8, List.map_append]; exact upd_same, ?_, fun a => ?_⟩
            · rw [List.nodup_append]
              exact ⟨tn, by simp, fun a ha b hb w => by rw [List.mem_singleton] at hb; subst hb; subst w; exact hxD ((tm _).mp ha).1⟩
            · rw [List.mem_append, tm, List.mem_append, List.mem_singleton]
              constructor
              · rintro (⟨y1, y2⟩ | rfl)
                · exact ⟨.inl y1, y2⟩
                · exact ⟨.inr rfl, rfl⟩
              · rintro ⟨y1 | y1, y2⟩
                · exact .inl ⟨y1, y2⟩
                · exact .inr y1
          · simp only [if_neg hkx]
            obtain ⟨_, tn', tm'⟩ := hT k hk'
            refine ⟨by rw [← hτ8]; exact upd_ne (fun y => hkx (tinj k hk' _ hk3 y)) (hl7 k hk'), tn', fun a => ?_⟩
            rw [tm', List.mem_append, List.mem_singleton]
            constructor
            · rintro ⟨y1, y2⟩; exact ⟨.inl y1, y2⟩
            · rintro ⟨y1 | y1, y2⟩
              · exact ⟨y1, y2⟩
              · subst y1; exact absurd y2.symm hkx
        · have z : fv pr l H x.2 = 7 := by simpa using z
          refine C_push (x := x.2) (ps := ps') hg1 hg2 hr1 kmd khp nmh (by exact hE7) hk hO hl hHk hS hxN hxD e1 e2 e3 e4 rfl rfl (by exact hm7) (by exact hp7) hx3 hq6 hpm6 ?_
          intro ℓ9 τ9 N' ps9 ep9 c1 c2 c3 c4 c5 c6 c7 c8 c9
          refine fin T τ7 ℓ9 τ9 N' ps9 ep9 c1 c2 c3 c4 c5 c6 c7 c8 c9 ht7 (fun k hk' => ⟨hl7 k hk', (hT k hk').2.1, fun a => ?_⟩)
          rw [(hT k hk').2.2, List.mem_append, List.mem_singleton]
          constructor
          · rintro ⟨y1, y2⟩; exact ⟨.inl y1, y2⟩
          · rintro ⟨y1 | y1, y2⟩
            · exact ⟨y1, y2⟩
            · subst y1
              rw [z] at y2
              rw [← y2] at hk'
              exact absurd hk' (by decide)
      · have hall : ∀ q ∈ ps, mv pr l H D q.2 = 7 := fun q hq' => by
          have : (ps.filter fun q => mv pr l H D q.2 != 7) = [] := by simpa using z
          rw [List.filter_eq_nil_iff] at this
          have := this q hq'
          simpa using this
        clear hP z
        have hend : ∀ {c}, Le pr c l ∨ Oth pr H c → c ∈ D ∨ Old pr l H c := fun {c} hc => hS.end (fun n hn hnD => by
          rcases List.mem_append.mp (hpm.mem_iff.mpr hn) with y | y
          · exact absurd y hnD
          · obtain ⟨q, q1, rfl⟩ := List.mem_map.mp y
            exact mv_seven.mp (hall q q1)) hc
        have tlen : ∀ k ∈ k3, (T k).length ≤ 20 := fun k hk' => by
          obtain ⟨_, tn, tm⟩ := hT k hk'
          have : (T k).length ≤ ks.length := tn.length_le_of_subset fun a ha => hNk a (hS.dn a ((tm a).mp ha).1)
          omega
        refine next_go ?_
        dsimp only
        refine bind_go ?_
        refine C_sorted3 (tl := tl) (T := T) (td := td) (ep := ep3) e5 (by exact hE6 _ _ htd) (fun k hk' => ⟨hE6 _ _ (hT k hk').1, by have := tlen k hk'; omega⟩) ?_
        intro w τ9 X Y Z hE9 h3 hX hY hZ
        obtain ⟨_, tn1, tm1⟩ := hT 1 (by decide)
        obtain ⟨_, tn2, tm2⟩ := hT 2 (by decide)
        obtain ⟨_, tn3, tm3⟩ := hT 3 (by decide)
        refine hQ w τ9 X Y Z (hE06.tr hE9) h3 ⟨ss_of hX.2 (hX.1.nodup_iff.mpr tn1), ss_of hY.2 (hY.1.nodup_iff.mpr tn2), ss_of hZ.2 (hZ.1.nodup_iff.mpr tn3), fun a => ?_, fun a => ?_, fun a => ?_⟩
        · rw [hX.1.mem_iff, tm1]
          constructor
          · rintro ⟨_, y⟩; exact ⟨(fv_one.mp y).1, (fv_one.mp y).2.1⟩
          · rintro ⟨y1, y2⟩
            have hno : ¬ Old pr l H a := fun y => y2 y.both.2
            exact ⟨(hend (.inl y1)).resolve_right hno, fv_one.mpr ⟨y1, y2, hno⟩⟩
        · rw [hY.1.mem_iff, tm2]
          constructor
          · rintro ⟨_, y⟩; exact ⟨(fv_tw.mp y).2.1, (fv_tw.mp y).1⟩
          · rintro ⟨y1, y2⟩
            have hno : ¬ Old pr l H a := fun y => y2 y.both.1
            exact ⟨(hend (.inr y1)).resolve_right hno, fv_tw.mpr ⟨y2, y1, hno⟩⟩
        · rw [hZ.1.mem_iff, tm3]
          constructor
          · rintro ⟨_, y⟩; exact ⟨⟨(fv_three.mp y).1, (fv_three.mp y).2.1⟩, (fv_three.mp y).2.2⟩
          · rintro ⟨⟨y1, y2⟩, hno⟩
            exact ⟨(hend (.inl y1)).resolve_right hno, fv_three.mpr ⟨y1, y2, hno⟩⟩
end
end
section
theorem prevr7_go {QI : LIt → LS → Prop} {E : LX → LS → Prop} {σ : LS} (q : QI (([6, 5, 4, 3, 2, 1, 0] : List Nat).map (fun i => LV.int (i : Nat)), fun _ => True) σ) : prevr (.rng 0 7 1) QI E σ := ⟨by decide, q⟩
theorem fmod_rng {a b : Int} (h : 0 < b) : 0 ≤ a.fmod b ∧ a.fmod b < b := by
  rw [Int.fmod_eq_emod_of_nonneg _ (Int.le_of_lt h)]
  exact ⟨Int.emod_nonneg _ (Int.ne_of_gt h), Int.emod_lt_of_pos _ h⟩
def p7 : List Nat := [6, 5, 4, 3, 2, 1, 0]
theorem mem_p7 {i : Nat} (h : i ∈ p7) : i < 7 := (by decide : ∀ i ∈ p7, i < 7) i h
section
set_option maxHeartbeats 8000000 in
theorem C_parents {σ : LS} {wa na : Nat} {W : List Int} {f : Nat → Int} {Q : LV → LS → Prop} {E : LX → LS → Prop} (hwa : σ.heap wa = some (.list (W.map .int))) (hWl : W.length = 7) (hna : σ.heap na = some (.list ((List.range 7).map fun i => .int (f i)))) (hinj : ∀ i < 7, ∀ j < 7, f i = f j → i = j)
    (hQ : ∀ g τ' pr, Ext σ.heap τ' → Gr τ' g (p7.map f) pr → (∀ i < 7, (pr (f i)).Nodup ∧ ∀ a ∈ pr (f i), ∃ j < i, a = f j) → Q (.ref g) ⟨σ.loc, τ'⟩) : P_law_parents ad2 [.ref wa, .ref na] Q E σ := by
  refine ⟨_, rfl, ?_⟩
  unfold B_law_parents
  trivial
  intro g hg
  have kg : σ.heap g = none := hg
  trivial
  refine prevr7_go ?_
  refine for_go (f := fun i : Nat => LV.int (i : Int)) (fun pre _ σ' => σ'.loc "wants" = some (.ref wa) ∧ σ'.loc "names" = some (.ref na) ∧ σ'.loc "parents" = some (.ref g) ∧ Ext σ.heap σ'.heap ∧ ∃ (pa : Int → Nat) (pr : Int → List Int) (ep : Nat), σ'.heap g = some (.dict ((pre.map f).map fun k => (k, .ref (pa k))) ep) ∧ ∀ i ∈ pre, σ'.heap (pa (f i)) = some (.list ((pr (f i)).map .int)) ∧ pa (f i) ≠ g ∧ (pr (f i)).Nodup ∧ ∀ a ∈ pr (f i), ∃ j < i, a = f j) p7 ⟨rfl, rfl, rfl, Ext.new kg, fun _ => 0, fun _ => [], 0, upd_same, by simp⟩ ?_ ?_
  · rintro P pre x rest ⟨ℓ, τ⟩ he ⟨e1, e2, e3, hE, pa, pr, ep, hgd, hpre⟩ hP
    simp only at e1 e2 e3 hE hgd hpre
    have hx : x < 7 := mem_p7 (by rw [he]; simp)
    have hpl : pre.length < 7 := by
      have := congrArg List.length he; simp [p7] at this; omega
    have hxpre : f x ∉ pre.map f := fun z => by
      obtain ⟨y, y1, y2⟩ := List.mem_map.mp z
      have hy : y < 7 := mem_p7 (by rw [he]; exact List.mem_append_left _ y1)
      have := hinj y hy x hx y2
      subst this
      have nd : p7.Nodup := by decide
      rw [he, List.nodup_append] at nd
      exact nd.2.2 y y1 y (.head _) rfl
    have hwx : (W.map LV.int)[((x : Nat) : Int).toNat]? = some (.int (W[x]?.getD 0)) := by
      rw [Int.toNat_natCast, List.getElem?_map, List.getElem?_eq_getElem (by omega)]; rfl
    have hnx : ∀ i : Nat, i < 7 → ((List.range 7).map fun i => LV.int (f i))[((i : Nat) : Int).toNat]? = some (.int (f i)) := fun i hi => by
      rw [Int.toNat_natCast, List.getElem?_map, List.getElem?_range hi]; rfl
    have hw1 := hE _ _ hwa
    have hn1 := hE _ _ hna
    refine ⟨True.intro, ?_⟩
    repeat trivial
    intro d hd
    have hd' : τ d = none := hd
    have kd : σ.heap d = none := hE.none hd'
    have dg : g ≠ d := ne_sn hgd hd'
    have dw : wa ≠ d := ne_sn hw1 hd'
    have dn : na ≠ d := ne_sn hn1 hd'
    repeat trivial
    refine mod_go (by omega) ?_
    repeat trivial
    refine mod_go (by omega) ?_
    repeat trivial
    refine titems_go (by simp [cap]) ?_
    have hv1 := (fmod_rng (a := W[x]?.getD 0) (b := (x : Int) + 1) (by omega)).1
    have hv2 := (fmod_rng (a := (W[x]?.getD 0).fdiv 10) (b := (x : Int) + 3) (by omega)).1
    generalize (W[x]?.getD 0).fmod ((x : Int) + 1) = v1 at hv1
    generalize ((W[x]?.getD 0).fdiv 10).fmod ((x : Int) + 3) = v2 at hv2
    refine for_go (f := fun n => LV.int n) (fun pre2 _ σ' => σ'.loc "wants" = some (.ref wa) ∧ σ'.loc "names" = some (.ref na) ∧ σ'.loc "parents" = some (.ref g) ∧ σ'.loc "place" = some (.int (x : Int)) ∧ σ'.loc "row" = some (.ref d) ∧ ∃ R : List Int, σ'.heap = upd τ d (.list (R.map .int)) ∧ R.Nodup ∧ R.length ≤ pre2.length ∧ ∀ a ∈ R, ∃ j < x, a = f j) [v1, v2] ⟨e1, e2, e3, rfl, rfl, [], rfl, by simp, by simp, by simp⟩ ?_ ?_
    · clear hP
      rintro P pre2 v rest2 ⟨ℓ2, τ2⟩ he2 ⟨f1, f2, f3, f4, f5, R, hR, hRn, hRl, hRm⟩ hP
      simp only at f1 f2 f3 f4 f5 hR
      subst hR
      have hv : 0 ≤ v := by
        have : v ∈ [v1, v2] := by rw [he2]; simp
        simp only [List.mem_cons, List.not_mem_nil, or_false] at this
        rcases this with rfl | rfl
        · exact hv1
        · exact hv2
      have hp2 : pre2.length < 2 := by
        have := congrArg List.length he2; simp at this; omega
      refine ⟨True.intro, ?_⟩
      repeat trivial
      refine if_both (fun z => ?_) (fun z => ?_)
      · have z : v < x := by simpa using z
        obtain ⟨i, rfl⟩ := Int.eq_ofNat_of_zero_le hv
        have hix : i < x := by omega
        have hni := hnx i (by omega)
        have hn2 : upd τ d (LO.list (R.map LV.int)) na = some (.list ((List.range 7).map fun i => .int (f i))) := upd_ne dn hn1
        repeat trivial
        refine if_both (fun z2 => ?_) (fun z2 => ?_)
        · have z2 : f i ∉ R := by simpa using z2
          repeat trivial
          refine lappend_go (xs := R.map .int) (by exact upd_same) (by simp [cap]; omega) ?_
          refine hP _ ⟨f1, f2, f3, f4, f5, R ++ [f i], ?_, ?_, by simp; omega, fun a ha => ?_⟩
          · show upd (upd τ d _) d _ = _
            rw [upd_upd, List.map_append]; rfl
          · rw [List.nodup_append]
            exact ⟨hRn, by simp, fun a ha b hb w => by rw [List.mem_singleton] at hb; subst hb; subst w; exact z2 ha⟩
          · rcases List.mem_append.mp ha with y | y
            · exact hRm a y
            · rw [List.mem_singleton] at y; exact ⟨i, hix, y⟩
        · exact hP _ ⟨f1, f2, f3, f4, f5, R, rfl, hRn, by simp; omega, hRm⟩
      · refine if_false' rfl ?_
        exact hP _ ⟨f1, f2, f3, f4, f5, R, rfl, hRn, by simp; omega, hRm⟩
    · rintro ⟨ℓ2, τ2⟩ ⟨f1, f2, f3, f4, f5, R, hR, hRn, hRl, hRm⟩
      simp only at f1 f2 f3 f4 f5 hR
      subst hR
      have hn2 : upd τ d (LO.list (R.map LV.int)) na = some (.list ((List.range 7).map fun i => .int (f i))) := upd_ne dn hn1
      refine ⟨True.intro, ?_⟩
      repeat trivial
      refine lget_go (by exact hn2) (by omega) (hnx x hx) ?_
      refine dset_go' (by exact upd_ne dg hgd) (by simp [cap]; omega) (fun ep5 τ5 hτ5 => ?_)
      rw [dput_map hxpre] at hτ5
      refine hP _ ⟨f1, f2, f3, by rw [← hτ5]; exact (hE.upd kd).upd kg, fun k => if k = f x then d else pa k, fun k => if k = f x then R else pr k, ep5, ?_, fun i hi => ?_⟩
      · rw [← hτ5]
        refine upd_same.trans ?_
        rw [show (pre ++ [x]).map f = pre.map f ++ [f x] from List.map_append]
        refine congrArg (fun z => some (LO.dict z ep5)) (List.map_congr_left fun n _ => ?_)
        show (n, if n = f x then LV.ref d else LV.ref (pa n)) = (n, LV.ref (if n = f x then d else pa n))
        split <;> rfl
      · rcases List.mem_append.mp hi with z | z
        · obtain ⟨a1, a2, a3, a4⟩ := hpre i z
          have hne : f i ≠ f x := fun y => hxpre (y ▸ List.mem_map_of_mem z)
          simp only [if_neg hne]
          refine ⟨?_, a2, a3, a4⟩
          rw [← hτ5]
          exact upd_ne a2 (upd_new hd' a1)
        · rw [List.mem_singleton] at z; subst z
          simp only [if_true]
          refine ⟨?_, dg.symm, hRn, hRm⟩
          rw [← hτ5]
          exact upd_ne dg.symm upd_same
  · rintro ⟨ℓ, τ⟩ ⟨e1, e2, e3, hE, pa, pr, ep, hgd, hpre⟩
    simp only at e1 e2 e3 hE hgd hpre
    refine ⟨True.intro, ?_⟩
    repeat trivial
    refine hQ g τ pr hE ⟨pa, ep, hgd, fun k hk => ?_⟩ fun i hi => ?_
    · obtain ⟨i, hi, rfl⟩ := List.mem_map.mp hk
      exact (hpre i hi).1
    · exact (hpre i ((by decide : ∀ i : Nat, i < 7 → i ∈ p7) i hi)).2.2
end
end
section
theorem three_eq_go {σ : LS} {a b : Nat} {X Y Z X' Y' Z' : List Int} {QB : Bool → LS → Prop} {E : LX → LS → Prop} (h : Three σ.heap a X Y Z) (k : Three σ.heap b X' Y' Z') (eX : X = X') (eY : Y = Y') (eZ : Z = Z') (q : QB false σ) : pnot pleqD (.ref a) (.ref b) QB E σ := by
  obtain ⟨L, a1, a2, a3⟩ := h
  obtain ⟨M, b1, b2, b3⟩ := k
  subst eX; subst eY; subst eZ
  refine ⟨L, M, a1, b1, a2, b2, ?_⟩
  rw [a3, b3, beq_self_eq_true]
  exact q
theorem ints_of {ys : List LV} {cs : List Int} (h : ∀ y ∈ ys, y ∈ cs.map LV.int) : ∃ is : List Int, ys = is.map .int := by
  induction ys with
  | nil => exact ⟨[], rfl⟩
  | cons y ys ih =>
    obtain ⟨is, rfl⟩ := ih fun z hz => h z (.tail _ hz)
    obtain ⟨i, _, rfl⟩ := List.mem_map.mp (h y (.head _))
    exact ⟨i :: is, rfl⟩
noncomputable def rF (f : Nat → Int) (a : Int) : Nat := @dite Nat (∃ i, i < 7 ∧ f i = a) (Classical.propDecidable _) (fun h => Classical.choose h) fun _ => 0
theorem rF_at {f : Nat → Int} (hi : ∀ i < 7, ∀ j < 7, f i = f j → i = j) {i : Nat} (h : i < 7) : rF f (f i) = i := by
  have hx : ∃ j, j < 7 ∧ f j = f i := ⟨i, h, rfl⟩
  unfold rF
  rw [dif_pos hx]
  have hs := Classical.choose_spec hx
  exact hi _ hs.1 i h hs.2
section
variable {f : Nat → Int} {pr : Int → List Int}
theorem p7_mem {i : Nat} (h : i < 7) : i ∈ p7 := (by decide : ∀ i : Nat, i < 7 → i ∈ p7) i h
theorem names_mem {a : Int} : a ∈ p7.map f ↔ ∃ i, i < 7 ∧ a = f i := by
  rw [List.mem_map]
  exact ⟨fun ⟨i, h, e⟩ => ⟨i, mem_p7 h, e.symm⟩, fun ⟨i, h, e⟩ => ⟨i, p7_mem h, e.symm⟩⟩
theorem names_ok (hi : ∀ i < 7, ∀ j < 7, f i = f j → i = j) (hr : ∀ i < 7, 0 ≤ f i ∧ f i < 7) (hp : ∀ i < 7, (pr (f i)).Nodup ∧ ∀ a ∈ pr (f i), ∃ j < i, a = f j) : GrOk (p7.map f) pr := by
  refine ⟨?_, fun a ha => ?_, fun k hk => ?_, fun k hk p hp' => ?_⟩
  · rw [List.Nodup, List.pairwise_map]
    refine List.Pairwise.imp_of_mem ?_ (by decide : p7.Nodup)
    intro a b ha hb hne z
    exact hne (hi a (mem_p7 ha) b (mem_p7 hb) z)
  · obtain ⟨i, h, rfl⟩ := names_mem.mp ha
    have := hr i h; omega
  · obtain ⟨i, h, rfl⟩ := names_mem.mp hk
    exact (hp i h).1
  · obtain ⟨i, h, rfl⟩ := names_mem.mp hk
    obtain ⟨j, j1, rfl⟩ := (hp i h).2 p hp'
    exact names_mem.mpr ⟨j, Nat.lt_trans j1 h, rfl⟩
theorem names_rk (hi : ∀ i < 7, ∀ j < 7, f i = f j → i = j) (hp : ∀ i < 7, (pr (f i)).Nodup ∧ ∀ a ∈ pr (f i), ∃ j < i, a = f j) : ∀ k ∈ p7.map f, ∀ p ∈ pr k, rF f p < rF f k := fun k hk p hp' => by
  obtain ⟨i, h, rfl⟩ := names_mem.mp hk
  obtain ⟨j, j1, rfl⟩ := (hp i h).2 p hp'
  rw [rF_at hi h, rF_at hi (Nat.lt_trans j1 h)]
  exact j1
theorem names_all (hk : GrOk (p7.map f) pr) (hr : ∀ i < 7, 0 ≤ f i ∧ f i < 7) {a : Int} : a ∈ p7.map f ↔ a ∈ k7 := by
  have hsub : ∀ b ∈ p7.map f, b ∈ k7 := fun b hb => by
    obtain ⟨i, h, rfl⟩ := names_mem.mp hb
    exact mem7.mpr (hr i h)
  refine ⟨hsub a, fun ha => Classical.byContradiction fun hn => ?_⟩
  have h1 : (a :: p7.map f).Nodup := List.nodup_cons.mpr ⟨hn, hk.nodup⟩
  have h2 : (a :: p7.map f).length ≤ k7.length := h1.length_le_of_subset fun b hb => by
    rcases List.mem_cons.mp hb with rfl | z
    · exact ha
    · exact hsub b z
  simp [p7, k7] at h2
theorem names_row {a : Int} : a ∈ (List.range 7).map f ↔ a ∈ p7.map f := by
  rw [names_mem, List.mem_map]
  exact ⟨fun ⟨i, h, e⟩ => ⟨i, List.mem_range.mp h, e.symm⟩, fun ⟨i, h, e⟩ => ⟨i, List.mem_range.mpr h, e.symm⟩⟩
theorem names_up (hi : ∀ i < 7, ∀ j < 7, f i = f j → i = j) : ((List.range 7).map f).Pairwise fun a b => rF f a < rF f b := by
  rw [List.pairwise_map]
  refine List.Pairwise.imp_of_mem ?_ (by decide : (List.range 7).Pairwise (· < ·))
  intro a b ha hb hlt
  rw [rF_at hi (List.mem_range.mp ha), rF_at hi (List.mem_range.mp hb)]
  exact hlt
end
theorem step7d : ∀ m : Nat, m < 6 → ∀ i < 7, ∀ j < 7, ((1 + (m : Int)) * (i : Nat) - (1 + (m : Int)) * (j : Nat)) % 7 = 0 → i = j := by
  have : ∀ m : Nat, m < 6 → ∀ i : Nat, i < 7 → ∀ j : Nat, j < 7 → ((1 + (m : Int)) * (i : Nat) - (1 + (m : Int)) * (j : Nat)) % 7 = 0 → i = j := by decide +kernel
  intro m hm
  exact this m hm
theorem step7 (s c : Int) : ∀ i < 7, ∀ j < 7, (s + (1 + (c + 2).fmod 6) * ((i : Nat) : Int)).fmod 7 = (s + (1 + (c + 2).fmod 6) * ((j : Nat) : Int)).fmod 7 → i = j := by
  intro i hi j hj h
  obtain ⟨h0, h6⟩ := fmod_rng (a := c + 2) (b := 6) (by decide)
  obtain ⟨m, hm⟩ := Int.eq_ofNat_of_zero_le h0
  rw [hm] at h h6
  rw [Int.fmod_eq_emod_of_nonneg _ (by decide), Int.fmod_eq_emod_of_nonneg _ (by decide), Int.emod_eq_emod_iff_emod_sub_eq_zero, Int.add_sub_add_left] at h
  exact step7d m (Int.ofNat_lt.mp h6) i hi j hj h
/-- six less something small is a place -/
theorem six_less {a : Int} {b : Nat} (h : 0 ≤ a ∧ a < (b : Int)) (hb : b ≤ 6) : 0 ≤ 6 - a ∧ 6 - a < 7 ∧ (6 - a).toNat < 7 := by omega
end
section
/-- the law's turns -/
theorem C_turns {σ : LS} {g ra un nm hd : Nat} {f : Nat → Int} {pr : Int → List Int} {O : List Int} {rk : Int → Int} {ua : Int → Nat} {U : Int → List Int} {L : List Int} {Q : LF → LS → Prop} (hi : ∀ i < 7, ∀ j < 7, f i = f j → i = j) (hr7 : ∀ i < 7, 0 ≤ f i ∧ f i < 7) (hp : ∀ i < 7, (pr (f i)).Nodup ∧ ∀ a ∈ pr (f i), ∃ j < i, a = f j)
    (hg : Gr σ.heap g (p7.map f) pr) (hO : ∀ n, n ∈ O ↔ n ∈ p7.map f) (hR : ReadOk σ.heap (p7.map f) pr ra un O rk ua U) (hnm : σ.heap nm = some (.list (((List.range 7).map f).map .int))) (hhd : σ.heap hd = some (.list (L.map .int))) (hL : L.length = 3) (hLk : ∀ a ∈ L, a ∈ p7.map f)
    (e1 : σ.loc "parents" = some (.ref g)) (e2 : σ.loc "names" = some (.ref nm)) (e3 : σ.loc "heads" = some (.ref hd)) (e4 : σ.loc "ranks" = some (.ref ra)) (e5 : σ.loc "seen" = some (.ref un)) (hQ : ∀ σ', Q .next σ') :
    (pfor (pbind (pbind (pbind (pret (.int 2)) fun a => pbind (pret []) fun as => pret (a :: as)) prange1) pritems) (pset "turn") (pseq
  (pbind (pbind (pbind (pget "heads") fun a => pbind (pget "turn") fun b => pupto a b) fun a => pbind (pbind (pget "heads") fun a => pbind (pbind (pget "turn") fun a => pbind (pret (.int 1)) fun b => padd a b) fun b => pfrom a b) fun b => pcat a b) fun v => pbind (pset "rest" v) fun _ => pret .next)
  (pseq
  (pbind (pbind (pbind (pget "parents") fun a => pbind (pbind (pget "names") fun a => pbind (pbind (pbind (pget "heads") fun a => pbind (pget "turn") fun b => plget a b) fun a => pbind (pbind (pget "rest") fun a => pbind (pret []) fun as => pret (a :: as)) fun as => pret (a :: as)) fun as => pret (a :: as)) fun as => pret (a :: as)) (P_law_due ad2)) fun v => pbind (pset "due" v) fun _ => pret .next)
  (pseq
  (pif (pbind (pbind (pbind (pget "parents") fun a => pbind (pbind (pget "ranks") fun a => pbind (pbind (pbind (pget "heads") fun a => pbind (pget "turn") fun b => plget a b) fun a => pbind (pbind (pget "rest") fun a => pbind (pret []) fun as => pret (a :: as)) fun as => pret (a :: as)) fun as => pret (a :: as)) fun as => pret (a :: as)) (P_law_marked ad2)) fun a => pbind (pget "due") fun b => pnot pleqD a b) (pbind (pret (.bool false)) fun v => pret (.ret v)) (pret .next))
  (pif (pbind (pbind (pbind (pget "seen") fun a => pbind (pbind (pbind (pget "heads") fun a => pbind (pget "turn") fun b => plget a b) fun a => pbind (pbind (pget "rest") fun a => pbind (pret []) fun as => pret (a :: as)) fun as => pret (a :: as)) fun as => pret (a :: as)) (P_law_listed ad2)) fun a => pbind (pget "due") fun b => pnot pleqD a b) (pbind (pret (.bool false)) fun v => pret (.ret v)) (pret .next))))) (pret .next)) Q noE σ := by
  have hk := names_ok hi hr7 hp
  have hr := names_rk hi hp
  trivial
  refine ritems_go (n := 2) (by decide) ?_
  refine for_go (f := fun i : Nat => LV.int (i : Int)) (fun _ _ σ' => σ'.loc "parents" = some (.ref g) ∧ σ'.loc "names" = some (.ref nm) ∧ σ'.loc "heads" = some (.ref hd) ∧ σ'.loc "ranks" = some (.ref ra) ∧ σ'.loc "seen" = some (.ref un) ∧ Ext σ.heap σ'.heap) (List.range 2) ⟨e1, e2, e3, e4, e5, Ext.rfl'⟩ ?_ ?_
  · clear e1 e2 e3 e4 e5
    rintro P pre x rest ⟨ℓ, τ⟩ he ⟨e1, e2, e3, e4, e5, hE⟩ hP
    simp only at e1 e2 e3 e4 e5 hE
    have hx : x < 2 := List.mem_range.mp (by rw [he]; simp)
    have hh := hE _ _ hhd
    have hLx : (L.map LV.int)[((x : Nat) : Int).toNat]? = some (.int (L[x]?.getD 0)) := by
      rw [Int.toNat_natCast, List.getElem?_map, List.getElem?_eq_getElem (by omega)]; rfl
    have hlk : L[x]?.getD 0 ∈ p7.map f := by
      rw [List.getElem?_eq_getElem (by omega)]
      exact hLk _ (List.getElem_mem (by omega))
    refine ⟨True.intro, ?_⟩
    repeat trivial
    intro b1 hb1
    have hb1' : τ b1 = none := hb1
    have hh1 := (Ext.new (o := .list ((L.map .int).take ((x : Nat) : Int).toNat)) hb1') _ _ hh
    repeat trivial
    intro b2 hb2
    have eH : (L.map LV.int).take ((x : Nat) : Int).toNat ++ (L.map LV.int).drop (((x : Nat) : Int) + 1).toNat = (L.take x ++ L.drop (x + 1)).map .int := by
      have : (((x : Nat) : Int) + 1).toNat = x + 1 := by omega
      rw [this, Int.toNat_natCast, List.map_append, List.map_take, List.map_drop]
    refine cat_go (xs := (L.map LV.int).take ((x : Nat) : Int).toNat) (ys := (L.map LV.int).drop (((x : Nat) : Int) + 1).toNat) (by exact upd_new hb2 upd_same) (by exact upd_same) (by simp [cap]; omega) ?_
    intro b3 hb3
    rw [eH]
    have hHk : ∀ n ∈ L.take x ++ L.drop (x + 1), n ∈ p7.map f := fun n hn => by
      rcases List.mem_append.mp hn with z | z
      · exact hLk n (List.mem_of_mem_take z)
      · exact hLk n (List.mem_of_mem_drop z)
    have hHl : (L.take x ++ L.drop (x + 1)).length ≤ 20 := by simp; omega
    generalize L.take x ++ L.drop (x + 1) = H at hHk hHl
    generalize L[x]?.getD 0 = l at hlk hLx
    generalize hτ2 : upd _ b3 (LO.list (H.map LV.int)) = τ2
    have hE2 : Ext τ τ2 := by rw [← hτ2]; exact ((Ext.new hb1').tr (Ext.new hb2)).tr (Ext.new hb3)
    have hre : τ2 b3 = some (.list (H.map .int)) := by rw [← hτ2]; exact upd_same
    clear hτ2 hb1 hb1' hh1 hb2 hb3 eH
    have hE02 := hE.tr hE2
    have hh2 := hE02 _ _ hhd
    clear hh hE hE2
    repeat trivial
    refine C_due (E := noE) (r := rF f) (ns := (List.range 7).map f) (by exact hg.ext hE02) hk (fun a => names_all hk hr7) hr (by exact hE02 _ _ hnm) (fun a => names_row) (names_up hi) hlk (by exact hre) hHk hHl ?_
    intro w τ3 X Y Z hE3 h3 hT3
    have hE03 := hE02.tr hE3
    have hh3 := hE03 _ _ hhd
    repeat trivial
    refine C_marked (E := noE) (by exact hg.ext hE03) hk hO (by exact hR.ext hE03) hlk (by exact hE3 _ _ hre) hHk hHl ?_
    intro w2 τ4 X2 Y2 Z2 hE4 h4 hT4
    have hE04 := hE03.tr hE4
    have hh4 := hE04 _ _ hhd
    obtain ⟨q1, q2, q3⟩ := hT4.same hT3
    repeat trivial
    refine three_eq_go (by exact h4) (by exact h3.ext hE4) q1 q2 q3 ?_
    repeat trivial
    refine C_listed (E := noE) (r := rF f) hk hr hO (by exact hR.ext hE04) hlk (by exact (hE3.tr hE4) _ _ hre) hHk hHl ?_
    intro w5 τ5 X5 Y5 Z5 hE5 h5 hT5
    obtain ⟨p1, p2, p3⟩ := hT5.same hT3
    repeat trivial
    refine three_eq_go (by exact h5) (by exact h3.ext (hE4.tr hE5)) p1 p2 p3 ?_
    repeat trivial
    exact hP _ ⟨e1, e2, e3, e4, e5, hE04.tr hE5⟩
  · rintro ⟨ℓ, τ⟩ _
    exact ⟨True.intro, hQ _⟩
end
section
def firsts : List Int := [64, 10, 21, 21, 12, 51, 60]
set_option maxHeartbeats 8000000 in
theorem pure02 (sa : Addr) (si : List Int) : B_law ad2 sa si (fun f _ => f = .ret (.bool true)) noE ⟨bindLoc [("script", .raw (.ref sa))] fun _ => none, fun _ => none⟩ := by
  unfold B_law
  refine ⟨rfl, fun d hd => ?_⟩
  refine items_go (by exact upd_same) ?_
  intro D hD
  have dD : d ≠ D := by rintro rfl; simp [LS.put] at hD
  refine comp_go (f := fun n => LV.int n) (xs := si.take 12) (fun _ => true) (fun i => .int (i.fmod (10 ^ (6 : Int).toNat))) (by have := List.length_take_le 12 si; unfold cap; omega) (fun ℓ' acc => by exact upd_ne dD upd_same) (fun o ho acc ℓ' hℓ => ?_) ?_
  · refine ⟨fun y => if y = "cell" then some (.int o) else ℓ' y, fun y hy => ?_, fun K h => h, fun K h => h, fun hc K h => ?_⟩
    · by_cases z : y = "cell"
      · subst z; simp at hy
      · simp only [if_neg z]; exact hℓ y hy
    · repeat trivial
  rw [filter_tt]
  have e1 : ((si.take 12).map fun i => LV.int (i.fmod (10 ^ (6 : Int).toNat))) = ((si.take 12).map fun i => i.fmod (10 ^ (6 : Int).toNat)).map .int := by rw [List.map_map]; rfl
  rw [e1]
  generalize ((si.take 12).map fun i => i.fmod (10 ^ (6 : Int).toNat)) = cs
  generalize hτ1 : upd _ D (LO.list (cs.map .int)) = τ1
  have hD1 : τ1 D = some (.list (cs.map .int)) := by rw [← hτ1]; exact upd_same
  clear hτ1 hD dD hd e1
  repeat trivial
  intro d2 hd2
  have hd2' : τ1 d2 = none := hd2
  have hne1 : D ≠ d2 := ne_sn hD1 hd2'
  refine enum_go (by exact upd_same) ?_
  intro D2 hD2
  have hD2' : upd τ1 d2 (.list (firsts.map LV.int)) D2 = none := hD2
  have e2 : ([LV.int 64, LV.int 10, LV.int 21, LV.int 21, LV.int 12, LV.int 51, LV.int 60]) = firsts.map LV.int := rfl
  rw [e2, List.zipIdx_map, List.map_map]
  have hE1 : Ext τ1 (upd τ1 d2 (.list (firsts.map LV.int))) := Ext.new hd2'
  have kD2 := hE1.none hD2'
  have nd2 : d2 ≠ D2 := ne_sn upd_same hD2'
  refine compE_go (xs := firsts.zipIdx) (f := fun vi : Int × Nat => LV.tup [.int vi.2, .int vi.1]) (fun pre τ' => Ext (upd τ1 d2 (.list (firsts.map LV.int))) τ' ∧ ∃ W : List Int, τ' D2 = some (.list (W.map .int)) ∧ W.length = pre.length) ⟨Ext.new hD2', [], upd_same, rfl⟩ ?_ ?_
  · rintro P pre ⟨a, i⟩ rest ℓ' τ' he hℓ0 ⟨hE, W, hW, hWl⟩ hP
    have hpl : pre.length < 7 := by
      have := congrArg List.length he; simp [firsts] at this; omega
    have hcs : τ' D = some (.list (cs.map .int)) := hE _ _ (hE1 _ _ hD1)
    have f1 : ℓ' "cells" = some (.ref D) := hℓ0 _ rfl
    refine ⟨hE _ _ upd_same, ?_⟩
    refine ⟨⟨_, rfl, rfl⟩, ?_⟩
    refine get_go (v := .int a) rfl ?_
    refine get_go (v := .ref D) f1 ?_
    refine get_go (v := .int (i : Int)) rfl ?_
    refine ⟨_, _, _, _, rfl, rfl, rfl, hcs, by decide, fun d3 ys hd3 hys hyl => ?_⟩
    have hd3' : τ' d3 = none := hd3
    obtain ⟨is, rfl⟩ := ints_of hys
    refine sum_go (by exact upd_same) ?_
    refine add_go ?_
    have n3 : D2 ≠ d3 := ne_sn hW hd3'
    refine lappend_go (xs := W.map .int) (by exact upd_ne n3 hW) (by simp [cap]; omega) ?_
    refine hP _ _ (fun y hy => ?_) ⟨(hE.tr (Ext.new hd3')).upd hD2', W ++ [a + is.sum], by rw [List.map_append]; exact upd_same, by simp [hWl]⟩
    refine Eq.trans ?_ (hℓ0 y hy)
    show (if y = "first" then _ else if y = "place" then _ else ℓ' y) = _
    by_cases z : y = "first"
    · subst z; simp at hy
    · by_cases z2 : y = "place"
      · subst z2; simp at hy
      · simp only [if_neg z, if_neg z2]
  · rintro ℓ' τ2 ⟨hE2, W, hW, hWl⟩
    have hWl : W.length = 7 := hWl
    refine ⟨hE2 _ _ upd_same, ?_⟩
    have hD2 : τ2 D = some (.list (cs.map .int)) := hE2 _ _ (hE1 _ _ hD1)
    clear hE2 hE1 hD2' nd2 kD2 e2 hd2 hd2' hne1 hD1
    repeat trivial
    generalize hS : cs.sum = S
    refine ritems_go (n := 7) (by decide) ?_
    intro D4 hD4
    have hD4' : τ2 D4 = none := hD4
    have hne4 : D ≠ D4 := ne_sn hD2 hD4'
    have hne42 : D2 ≠ D4 := ne_sn hW hD4'
    refine comp_go (f := fun i : Nat => LV.int (i : Int)) (fun _ => true) (fun i => .int ((S + (1 + (S.fdiv 7 + 2).fmod 6) * (i : Int)).fmod 7)) (by decide) (fun ℓ' acc => True.intro) (fun o ho acc ℓ' hℓ => ?_) ?_
    · have ho' : o < 7 := by simpa using ho
      refine ⟨fun y => if y = "place" then some (.int o) else ℓ' y, fun y hy => ?_, fun K h => h, fun K h => h, fun hc K h => ?_⟩
      · by_cases z : y = "place"
        · subst z; simp at hy
        · simp only [if_neg z]; exact hℓ y hy
      · repeat trivial
        refine mul_go (by omega) ?_
        rw [hS]
        repeat trivial
    rw [filter_tt]
    have hinj := step7 S (S.fdiv 7)
    have hrng : ∀ i : Nat, 0 ≤ (S + (1 + (S.fdiv 7 + 2).fmod 6) * (i : Int)).fmod 7 ∧ (S + (1 + (S.fdiv 7 + 2).fmod 6) * (i : Int)).fmod 7 < 7 := fun i => fmod_rng (by decide)
    generalize hf : (fun i : Nat => (S + (1 + (S.fdiv 7 + 2).fmod 6) * (i : Int)).fmod 7) = f
    have hfi : ∀ i, f i = (S + (1 + (S.fdiv 7 + 2).fmod 6) * (i : Int)).fmod 7 := fun i => by rw [← hf]
    simp only [← hfi] at hinj hrng ⊢
    clear hf hfi
    generalize hτ3 : upd _ D4 (LO.list ((List.range 7).map fun i => LV.int (f i))) = τ3
    have h3 : τ3 D4 = some (.list ((List.range 7).map fun i => LV.int (f i))) := by rw [← hτ3]; exact upd_same
    have hW3 : τ3 D2 = some (.list (W.map .int)) := by rw [← hτ3]; exact upd_ne hne42 hW
    clear hτ3 hD2 hD4 hD4' hne4 hne42 hW
    repeat trivial
    refine C_parents (E := noE) (f := f) (by exact hW3) hWl (by exact h3) hinj ?_
    intro g τ5 pr hE5 hg hp
    have hW5 := hE5 _ _ hW3
    have h5 := hE5 _ _ h3
    have hnk : ∀ k : Int, 0 ≤ k → k < 7 → ((List.range 7).map fun i => LV.int (f i))[k.toNat]? = some (.int (f k.toNat)) := fun k h0 h7 => by
      rw [List.getElem?_map, List.getElem?_range (by omega)]; rfl
    have hw0 : (W.map LV.int)[(0 : Int).toNat]? = some (.int (W[0]?.getD 0)) := by
      rw [List.getElem?_map, show (0 : Int).toNat = 0 from rfl, List.getElem?_eq_getElem (by omega)]; rfl
    generalize W[0]?.getD 0 = w0 at hw0
    have m1 := six_less (b := 4) (fmod_rng (a := w0) (b := 4) (by decide)) (by decide)
    have m2 := six_less (b := 5) (fmod_rng (a := w0.fdiv 4) (b := 5) (by decide)) (by decide)
    have m3 := six_less (b := 6) (fmod_rng (a := w0.fdiv 20) (b := 6) (by decide)) (by decide)
    clear hE5 hW3 h3
    repeat trivial
    refine lget_go (by exact h5) m1.1 (hnk _ m1.1 m1.2.1) ?_
    repeat trivial
    refine lget_go (by exact h5) m2.1 (hnk _ m2.1 m2.2.1) ?_
    repeat trivial
    refine lget_go (by exact h5) m3.1 (hnk _ m3.1 m3.2.1) ?_
    repeat trivial
    have i1 := m1.2.2
    have i2 := m2.2.2
    have i3 := m3.2.2
    generalize ((6 : Int) - w0.fmod 4).toNat = j1 at i1
    generalize ((6 : Int) - (w0.fdiv 4).fmod 5).toNat = j2 at i2
    generalize ((6 : Int) - (w0.fdiv 20).fmod 6).toNat = j3 at i3
    clear m1 m2 m3 hw0 hnk hW5
    intro hd hhd
    have hhd' : τ5 hd = none := hhd
    have hk := names_ok hinj (fun i _ => hrng i) hp
    repeat trivial
    refine C_read (E := noE) (r := rF f) (by exact hg.ext (Ext.new hhd')) hk (names_rk hinj hp) ?_
    intro τ6 ra un O rk ua U hE6 hOn hO hR
    have hE56 : Ext τ5 τ6 := (Ext.new hhd').tr hE6
    trivial
    refine C_turns (f := f) (pr := pr) (O := O) (L := [f j1, f j2, f j3]) hinj (fun i _ => hrng i) hp (by exact hg.ext hE56) hO (by exact hR) (by rw [List.map_map]; exact hE56 _ _ h5) (by exact hE6 _ _ upd_same) rfl (fun a ha => ?_) rfl rfl rfl rfl rfl (fun σ' => rfl)
    simp only [List.mem_cons, List.not_mem_nil, or_false] at ha
    rcases ha with rfl | rfl | rfl
    · exact names_mem.mpr ⟨j1, i1, rfl⟩
    · exact names_mem.mpr ⟨j2, i2, rfl⟩
    · exact names_mem.mpr ⟨j3, i3, rfl⟩
end
end Mine
end
theorem PySem.Challenge.cw_nq0219_02_holds : PySem.Challenge.rw_nq0219_02.Holds :=
  Mine.hold2 Mine.pure02
