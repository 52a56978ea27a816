import PyProof.Rows.All
import Wide.All
import OpenK.AllK
import Wide.FinOn
import PySem.Challenge.RW_dm0097_06
set_option Elab.async false
set_option linter.unusedVariables false
set_option linter.unusedSimpArgs false
section
open PySem PySem.W PyProof.Rows
set_option maxRecDepth 100000
namespace Mine

/-- deep data: what a value says, all the way down -/
inductive D where
  | none
  | bool (b : Bool)
  | int (i : Int)
  | str (x : Str)
  | bytes (b : Array UInt8)
  | raw (v : Value)
  | tuple (ds : List D)
  | list (ds : List D)
  | slice (l u st : D)
  | rng (lo hi : Int)

mutual
inductive Rep (ok : Addr → Prop) (h : Heap) : Value → D → Prop
  | none : Rep ok h .none .none
  | bool (b : Bool) : Rep ok h (.bool b) (.bool b)
  | int (i : Int) (t : Tok) : Rep ok h (.int i t) (.int i)
  | str (x : Str) (t : Tok) : Rep ok h (.str x t) (.str x)
  | bytes (b : Array UInt8) (t : Tok) : Rep ok h (.bytes b t) (.bytes b)
  | raw (v : Value) : Rep ok h v (.raw v)
  | tuple {a : Addr} {vs : List Value} {ds : List D} : ok a → IsTup h a vs.toArray → RepAll ok h vs ds → Rep ok h (.ref a) (.tuple ds)
  | list {a : Addr} {vs : List Value} {ds : List D} : ok a → h.IsList a vs.toArray → RepAll ok h vs ds → Rep ok h (.ref a) (.list ds)
  | slice {a : Addr} {o : Obj} {v1 v2 v3 : Value} {l u st : D} : ok a → h.get? a = some o → o.cls = .type "slice" → o.data = .fields #[v1, v2, v3] → Rep ok h v1 l → Rep ok h v2 u → Rep ok h v3 st → Rep ok h (.ref a) (.slice l u st)
  | rng {a : Addr} {lo hi : Int} {t1 t2 t3 : Tok} : ok a → IsRange h a lo hi 1 t1 t2 t3 → Rep ok h (.ref a) (.rng lo hi)
inductive RepAll (ok : Addr → Prop) (h : Heap) : List Value → List D → Prop
  | nil : RepAll ok h [] []
  | cons {v : Value} {vs : List Value} {d : D} {ds : List D} : Rep ok h v d → RepAll ok h vs ds → RepAll ok h (v :: vs) (d :: ds)
end

def isDict : Data → Bool
  | .dict .. => true
  | _ => false

/-- what stood stands: plain objects to the sign, namespaces up to their marks -/
def Ext (base h h' : Heap) : Prop := ∀ b o, h.get? b = some o → ∃ o', h'.get? b = some o' ∧ o'.cls = o.cls ∧ o'.data = o.data ∧ ((base.get? b).isSome = true ∨ isDict o.data = false → o' = o)

theorem Ext.of_stays {base h h' : Heap} (k : ∀ b o, h.get? b = some o → h'.get? b = some o) : Ext base h h' := fun b o e => ⟨o, k b o e, rfl, rfl, fun _ => rfl⟩
theorem Ext.refl {base h : Heap} : Ext base h h := .of_stays fun _ _ e => e
theorem Ext.trans {base h₁ h₂ h₃ : Heap} (x : Ext base h₁ h₂) (y : Ext base h₂ h₃) : Ext base h₁ h₃ := by
  intro b o e
  obtain ⟨o', e', c', d', k'⟩ := x b o e
  obtain ⟨o'', e'', c'', d'', k''⟩ := y b o' e'
  refine ⟨o'', e'', c''.trans c', d''.trans d', fun q => ?_⟩
  have := k' q; subst this
  exact k'' q
theorem Ext.base {base h h' : Heap} (x : Ext base h h') (k : base.StaysIn h) : base.StaysIn h' := by
  intro b o e
  obtain ⟨o', e', _, _, k'⟩ := x b o (k b o e)
  rw [e', k' (.inl (by rw [e]; rfl))]
theorem Ext.list {base h h' : Heap} {a : Addr} {items : Array Value} (x : Ext base h h') (l : h.IsList a items) : h'.IsList a items := by
  obtain ⟨o, e, c, n, d⟩ := l
  obtain ⟨o', e', c', d', _⟩ := x a o e
  exact ⟨o', e', c'.trans c, n, d'.trans d⟩
theorem Ext.tup {base h h' : Heap} {a : Addr} {items : Array Value} (x : Ext base h h') (l : IsTup h a items) : IsTup h' a items := by
  obtain ⟨o, e, c, n, d⟩ := l
  obtain ⟨o', e', c', d', _⟩ := x a o e
  exact ⟨o', e', c'.trans c, n, d'.trans d⟩
theorem Ext.ns {base h h' : Heap} {a : Addr} {m : Str → Option Value} (x : Ext base h h') (l : h.Ns a m) : h'.Ns a m := by
  obtain ⟨o, es, ep, e, d, r⟩ := l
  obtain ⟨o', e', _, d', _⟩ := x a o e
  exact ⟨o', es, ep, e', d'.trans d, r⟩
theorem Ext.cell {base h h' : Heap} {a : Addr} {v : Option Value} (x : Ext base h h') (l : h.IsCell a v) : h'.IsCell a v := by
  obtain ⟨o, e, d⟩ := l
  obtain ⟨o', e', _, d', _⟩ := x a o e
  exact ⟨o', e', d'.trans d⟩
theorem Ext.none {base h h' : Heap} {b : Addr} (x : Ext base h h') (e : h'.get? b = none) : h.get? b = none := by
  cases q : h.get? b with
  | none => rfl
  | some o => obtain ⟨o', e', _⟩ := x b o q; rw [e'] at e; cases e

mutual
theorem Rep.ext {ok ok' : Addr → Prop} {base h h' : Heap} (x : Ext base h h') (k : ∀ a, ok a → (h.get? a).isSome = true → ok' a) : ∀ {v : Value} {d : D}, Rep ok h v d → Rep ok' h' v d
  | _, _, .none => .none
  | _, _, .bool b => .bool b
  | _, _, .int i t => .int i t
  | _, _, .str y t => .str y t
  | _, _, .bytes b t => .bytes b t
  | _, _, .raw v => .raw v
  | _, _, .tuple o l r => .tuple (k _ o (by obtain ⟨_, e, _⟩ := l; rw [e]; rfl)) (x.tup l) (RepAll.ext x k r)
  | _, _, .list o l r => .list (k _ o (by obtain ⟨_, e, _⟩ := l; rw [e]; rfl)) (x.list l) (RepAll.ext x k r)
  | _, _, .slice o e c d p q r => .slice (k _ o (by rw [e]; rfl)) (by
      obtain ⟨o', e', c', d', k'⟩ := x _ _ e
      rw [k' (.inr (by rw [d]; rfl))] at e'; exact e') c d (Rep.ext x k p) (Rep.ext x k q) (Rep.ext x k r)
  | _, _, .rng o e => .rng (k _ o (by unfold IsRange at e; rw [e]; rfl)) (by
      unfold IsRange at e ⊢
      obtain ⟨o', e', c', d', k'⟩ := x _ _ e
      rw [k' (.inr rfl)] at e'; exact e')
theorem RepAll.ext {ok ok' : Addr → Prop} {base h h' : Heap} (x : Ext base h h') (k : ∀ a, ok a → (h.get? a).isSome = true → ok' a) : ∀ {vs : List Value} {ds : List D}, RepAll ok h vs ds → RepAll ok' h' vs ds
  | _, _, .nil => .nil
  | _, _, .cons a r => .cons (Rep.ext x k a) (RepAll.ext x k r)
end

/-- an object that may stand in a tree -/
inductive IsNode (h : Heap) (a : Addr) : Prop
  | list {vs : Array Value} : h.IsList a vs → IsNode h a
  | tup {vs : Array Value} : IsTup h a vs → IsNode h a
  | slice {o : Obj} {v1 v2 v3 : Value} : h.get? a = some o → o.cls = .type "slice" → o.data = .fields #[v1, v2, v3] → IsNode h a
  | rng {lo hi : Int} {t1 t2 t3 : Tok} : IsRange h a lo hi 1 t1 t2 t3 → IsNode h a

/-- all but the objects W stands -/
def ExtBut (base : Heap) (W : Addr → Prop) (h h' : Heap) : Prop := ∀ b o, ¬ W b → h.get? b = some o → ∃ o', h'.get? b = some o' ∧ o'.cls = o.cls ∧ o'.data = o.data ∧ ((base.get? b).isSome = true ∨ isDict o.data = false → o' = o)

mutual
theorem Rep.extBut {ok ok' : Addr → Prop} {base h h' : Heap} {W : Addr → Prop} (x : ExtBut base W h h') (n : ∀ a, ok a → IsNode h a → ¬ W a) (k : ∀ a, ok a → (h.get? a).isSome = true → ok' a) : ∀ {v : Value} {d : D}, Rep ok h v d → Rep ok' h' v d
  | _, _, .none => .none
  | _, _, .bool b => .bool b
  | _, _, .int i t => .int i t
  | _, _, .str y t => .str y t
  | _, _, .bytes b t => .bytes b t
  | _, _, .raw v => .raw v
  | _, _, .tuple o l r => .tuple (k _ o (by obtain ⟨_, e, _⟩ := l; rw [e]; rfl)) (by
      have q := n _ o (.tup l)
      obtain ⟨o₁, e, c, m, d⟩ := l
      obtain ⟨o', e', c', d', _⟩ := x _ o₁ q e
      exact ⟨o', e', c'.trans c, m, d'.trans d⟩) (RepAll.extBut x n k r)
  | _, _, .list o l r => .list (k _ o (by obtain ⟨_, e, _⟩ := l; rw [e]; rfl)) (by
      have q := n _ o (.list l)
      obtain ⟨o₁, e, c, m, d⟩ := l
      obtain ⟨o', e', c', d', _⟩ := x _ o₁ q e
      exact ⟨o', e', c'.trans c, m, d'.trans d⟩) (RepAll.extBut x n k r)
  | _, _, .slice o e c d p q r => .slice (k _ o (by rw [e]; rfl)) (by
      obtain ⟨o', e', c', d', k'⟩ := x _ _ (n _ o (.slice e c d)) e
      rw [k' (.inr (by rw [d]; rfl))] at e'; exact e') c d (Rep.extBut x n k p) (Rep.extBut x n k q) (Rep.extBut x n k r)
  | _, _, .rng o e => .rng (k _ o (by unfold IsRange at e; rw [e]; rfl)) (by
      unfold IsRange at e ⊢
      obtain ⟨o', e', c', d', k'⟩ := x _ _ (n _ o (.rng e)) e
      rw [k' (.inr rfl)] at e'; exact e')
theorem RepAll.extBut {ok ok' : Addr → Prop} {base h h' : Heap} {W : Addr → Prop} (x : ExtBut base W h h') (n : ∀ a, ok a → IsNode h a → ¬ W a) (k : ∀ a, ok a → (h.get? a).isSome = true → ok' a) : ∀ {vs : List Value} {ds : List D}, RepAll ok h vs ds → RepAll ok' h' vs ds
  | _, _, .nil => .nil
  | _, _, .cons a r => .cons (Rep.extBut x n k a) (RepAll.extBut x n k r)
end

theorem RepAll.length {ok : Addr → Prop} {h : Heap} {vs : List Value} {ds : List D} (r : RepAll ok h vs ds) : vs.length = ds.length := by
  induction vs generalizing ds with
  | nil => cases r; rfl
  | cons v vs ih => cases r with | cons _ r => rw [List.length_cons, List.length_cons, ih r]
theorem RepAll.append {ok : Addr → Prop} {h : Heap} {vs ws : List Value} {ds es : List D} (r : RepAll ok h vs ds) (k : RepAll ok h ws es) : RepAll ok h (vs ++ ws) (ds ++ es) := by
  induction vs generalizing ds with
  | nil => cases r; exact k
  | cons v vs ih => cases r with | cons a r => exact .cons a (ih r)
theorem RepAll.get {ok : Addr → Prop} {h : Heap} {vs : List Value} {ds : List D} (r : RepAll ok h vs ds) {k : Nat} {d : D} (hk : ds[k]? = some d) : ∃ v, vs[k]? = some v ∧ Rep ok h v d := by
  induction vs generalizing ds k with
  | nil => cases r; cases hk
  | cons v vs ih =>
    cases r with
    | cons a r =>
      cases k with
      | zero => cases hk; exact ⟨v, rfl, a⟩
      | succ k => exact ih r hk

end Mine

end
section
open PySem PySem.W PyProof.Rows
set_option maxRecDepth 100000
namespace Mine

/-- the ground: what stands behind the top -/
structure Gr where
  prog : Program
  w : World
  base : Heap
  mg : Str → Option Value
  mb : Str → Option Value
  g : base.Ns mainGlobals mg
  b : base.Ns builtinsNs mb
  bb : ∀ x : Str, x ≠ "__name__" → mb x = bootBuiltins x
  nolimit : base.NoLimit

abbrev Gr.M (G : Gr) : Model := model G.prog G.w

/-- room for n more calls -/
structure Room (n : Nat) (A : Around) : Prop where
  handled : A.handled = none
  depth : A.depth + n < recursionLimit
  units : A.units + 30 * n + 500 < cLine

theorem Room.mono {n m : Nat} {A : Around} (r : Room n A) (h : m ≤ n) : Room m A := ⟨r.handled, by have := r.depth; omega, by have := r.units; omega⟩
theorem Room.deeper {n : Nat} {A : Around} {env : Env} (r : Room (n + 1) A) : Room n (A.deeper env) := ⟨r.handled, by have := r.depth; show A.depth + 1 + n < _; omega, by have := r.units; show A.units + 3 + 30 * n + 500 < _; omega⟩
theorem Room.in1 {n : Nat} {A : Around} (r : Room (n + 1) A) : Room n A.in1 := ⟨r.handled, by have := r.depth; show A.depth + n < _; omega, by have := r.units; show A.units + 1 + 30 * n + 500 < _; omega⟩

/-- old generators stay as they are -/
structure GensKeep (g g' : Array GenState) : Prop where
  keep : ∀ (i : Nat) (x : GenState), g[i]? = some x → g'[i]? = some x
  bare : (∀ x ∈ g, x.bare = true) → ∀ x ∈ g', x.bare = true
theorem GensKeep.refl {g : Array GenState} : GensKeep g g := ⟨fun _ _ h => h, fun h => h⟩
theorem GensKeep.trans {a b c : Array GenState} (x : GensKeep a b) (y : GensKeep b c) : GensKeep a c := ⟨fun i z h => y.keep i z (x.keep i z h), fun h => y.bare (x.bare h)⟩

/-- a step that only adds -/
structure Stp (base : Heap) (s s' : Shared) : Prop where
  ext : Ext base s.heap s'.heap
  os : s'.os = s.os
  gens : GensKeep s.gens s'.gens
theorem Stp.refl {base : Heap} {s : Shared} : Stp base s s := ⟨.refl, rfl, .refl⟩
theorem Stp.trans {base : Heap} {a b c : Shared} (x : Stp base a b) (y : Stp base b c) : Stp base a c := ⟨x.ext.trans y.ext, y.os.trans x.os, x.gens.trans y.gens⟩
theorem Stp.heap {base : Heap} {s : Shared} {h' : Heap} {tk : Nat} (k : ∀ b o, s.heap.get? b = some o → h'.get? b = some o) : Stp base s { s with heap := h', toks := tk } := ⟨.of_stays k, rfl, .refl⟩
theorem Stp.tok {base : Heap} {s : Shared} {tk : Nat} : Stp base s { s with toks := tk } := ⟨.refl, rfl, .refl⟩
theorem Stp.push {base : Heap} {s : Shared} {o : Obj} {tk : Nat} : Stp base s { s with heap := s.heap.push o, toks := tk } := .heap fun _ _ e => Heap.get?_push_of_some _ e

def FreshOk (ok : Addr → Prop) (h : Heap) : Prop := ∀ b, h.get? b = none → ok b
theorem FreshOk.stp {ok : Addr → Prop} {base h h' : Heap} (f : FreshOk ok h) (x : Ext base h h') : FreshOk ok h' := fun b e => f b (x.none e)

theorem Rep.stp {ok : Addr → Prop} {base : Heap} {s s' : Shared} {v : Value} {d : D} (r : Rep ok s.heap v d) (x : Stp base s s') : Rep ok s'.heap v d := r.ext x.ext fun _ h _ => h
theorem RepAll.stp {ok : Addr → Prop} {base : Heap} {s s' : Shared} {vs : List Value} {ds : List D} (r : RepAll ok s.heap vs ds) (x : Stp base s s') : RepAll ok s'.heap vs ds := r.ext x.ext fun _ h _ => h
theorem Rep.weak {ok ok' : Addr → Prop} {h : Heap} {v : Value} {d : D} (r : Rep ok h v d) (k : ∀ a, ok a → ok' a) : Rep ok' h v d := r.ext (base := h) .refl fun a h _ => k a h
theorem RepAll.weak {ok ok' : Addr → Prop} {h : Heap} {vs : List Value} {ds : List D} (r : RepAll ok h vs ds) (k : ∀ a, ok a → ok' a) : RepAll ok' h vs ds := r.ext (base := h) .refl fun a h _ => k a h

inductive Slot where
  | val (d : D)
  | own (a : Addr) (ds : List D)
abbrev St := List (Str × Slot)
def owned : St → List Addr
  | [] => []
  | (_, .own a _) :: r => a :: owned r
  | (_, .val _) :: r => owned r
def setS (x : Str) (s : Slot) : St → St
  | [] => [(x, s)]
  | (y, t) :: r => if x = y then (x, s) :: r else (y, t) :: setS x s r

def okO (ok : Addr → Prop) (σ : St) (a : Addr) : Prop := ok a ∧ a ∉ owned σ

/-- where a name of the frame lies -/
def Holds (env : Env) (h : Heap) (x : Str) (v : Value) : Prop :=
  (env.kindOf x = some .local ∧ ∃ m, h.Ns env.locals m ∧ m x = some v) ∨
  ((env.kindOf x = some .cell ∨ env.kindOf x = some .free) ∧ ∃ c, env.cells.lookup x = some c ∧ h.IsCell c (some v))

theorem Holds.ext {base h h' : Heap} {env : Env} {x : Str} {v : Value} (e : Ext base h h') (q : Holds env h x v) : Holds env h' x v := by
  rcases q with ⟨k, m, n, r⟩ | ⟨k, c, l, r⟩
  · exact .inl ⟨k, m, e.ns n, r⟩
  · exact .inr ⟨k, c, l, e.cell r⟩

structure Frame (env : Env) (h : Heap) : Prop where
  kind : env.scope.kind = .function
  ns : ∃ m, h.Ns env.locals m
  cells : ∀ x c, env.cells.lookup x = some c → ∃ v, h.IsCell c v
  apart : env.cells.Pairwise fun x y => x.2 ≠ y.2
  away : ∀ x c, env.cells.lookup x = some c → c ≠ env.locals
  glob : env.globals = mainGlobals
  blt : env.builtins = builtinsNs
theorem Frame.ext {base h h' : Heap} {env : Env} (e : Ext base h h') (q : Frame env h) : Frame env h' :=
  ⟨q.kind, q.ns.imp fun _ n => e.ns n, fun x c l => (q.cells x c l).imp fun _ n => e.cell n, q.apart, q.away, q.glob, q.blt⟩

/-- the objects that a frame may write -/
def FrW (env : Env) (a : Addr) : Prop := a = env.locals ∨ ∃ x, env.cells.lookup x = some a
def Wr (env : Env) (σ : St) (a : Addr) : Prop := FrW env a ∨ a ∈ owned σ

/-- a list of the program's own making -/
def OwnL (h : Heap) (a : Addr) (vs : List Value) : Prop := ∃ n, h.get? a = some (listOf vs.toArray n)
theorem OwnL.list {h : Heap} {a : Addr} {vs : List Value} (l : OwnL h a vs) : h.IsList a vs.toArray := let ⟨n, e⟩ := l; ⟨_, e, rfl, n, rfl⟩
theorem OwnL.some {h : Heap} {a : Addr} {vs : List Value} (l : OwnL h a vs) : (h.get? a).isSome = true := by obtain ⟨n, e⟩ := l; rw [e]; rfl
theorem Ext.own {base h h' : Heap} {a : Addr} {vs : List Value} (x : Ext base h h') (l : OwnL h a vs) : OwnL h' a vs := by
  obtain ⟨n, e⟩ := l
  obtain ⟨o', e', _, _, k⟩ := x a _ e
  rw [k (.inr rfl)] at e'; exact ⟨n, e'⟩
theorem ExtBut.own {base h h' : Heap} {W : Addr → Prop} {a : Addr} {vs : List Value} (x : ExtBut base W h h') (w : ¬ W a) (l : OwnL h a vs) : OwnL h' a vs := by
  obtain ⟨n, e⟩ := l
  obtain ⟨o', e', _, _, k⟩ := x a _ w e
  rw [k (.inr rfl)] at e'; exact ⟨n, e'⟩

structure Inv (base : Heap) (ok : Addr → Prop) (env : Env) (σ : St) (h : Heap) : Prop where
  frame : Frame env h
  off : ∀ a, Wr env σ a → base.get? a = none
  fresh : FreshOk ok h
  vals : ∀ x d, σ.lookup x = some (.val d) → ∃ v, Holds env h x v ∧ Rep (okO ok σ) h v d
  owns : ∀ x a ds, σ.lookup x = some (.own a ds) → Holds env h x (.ref a) ∧ ok a ∧ ∃ vs, OwnL h a vs ∧ RepAll (okO ok σ) h vs ds
  there : ∀ a ∈ owned σ, ∃ vs, OwnL h a vs
  once : (owned σ).Nodup
theorem Inv.ext {ok : Addr → Prop} {base h h' : Heap} {env : Env} {σ : St} (e : Ext base h h') (i : Inv base ok env σ h) : Inv base ok env σ h' where
  frame := i.frame.ext e
  off := i.off
  fresh := i.fresh.stp e
  vals := fun x d l => let ⟨v, a, r⟩ := i.vals x d l; ⟨v, a.ext e, r.ext e fun _ h _ => h⟩
  owns := fun x a ds l => let ⟨p, q, vs, r, t⟩ := i.owns x a ds l; ⟨p.ext e, q, vs, e.own r, t.ext e fun _ h _ => h⟩
  there := fun a m => (i.there a m).imp fun _ r => e.own r
  once := i.once
theorem Inv.freshO {ok : Addr → Prop} {base h : Heap} {env : Env} {σ : St} (i : Inv base ok env σ h) : FreshOk (okO ok σ) h := fun b e => ⟨i.fresh b e, fun m => by
  obtain ⟨vs, k, q⟩ := i.there b m
  rw [e] at q; cases q⟩

section
variable (G : Gr) (n : Nat)
/-- an expression's value -/
def Ev (env : Env) (σ : St) (e : Expr) (d : D) : Prop := ∀ ok A s E, Room n A → G.base.StaysIn s.heap → Inv G.base ok env σ s.heap →
  wpAny G.M A (eval e env) (fun v s' => Stp G.base s s' ∧ Rep (okO ok σ) s'.heap v d) E s
/-- a test's answer -/
def Tr (env : Env) (σ : St) (e : Expr) (b : Bool) : Prop := ∀ ok A s E, Room n A → G.base.StaysIn s.heap → Inv G.base ok env σ s.heap →
  wpAny G.M A (isTrue e env (eval e env)) (fun r s' => Stp G.base s s' ∧ r = b) E s
def BinD (op : Operator) (da db d : D) : Prop := ∀ ok A s E va vb, Room n A → G.base.StaysIn s.heap → FreshOk ok s.heap → Rep ok s.heap va da → Rep ok s.heap vb db →
  wpAny G.M A (binaryOp op va vb) (fun v s' => Stp G.base s s' ∧ Rep ok s'.heap v d) E s
def CmpD (op : CmpOp) (da db : D) (b : Bool) : Prop := ∀ ok A s E va vb, Room n A → G.base.StaysIn s.heap → FreshOk ok s.heap → Rep ok s.heap va da → Rep ok s.heap vb db →
  wpAny G.M A (compareOp op va vb) (fun v s' => Stp G.base s s' ∧ v = .bool b) E s
def CallD (f : Value) (ds : List D) (d : D) : Prop := ∀ ok A s E vs, Room n A → G.base.StaysIn s.heap → FreshOk ok s.heap → RepAll ok s.heap vs ds →
  wpAny G.M A (call f vs) (fun v s' => Stp G.base s s' ∧ Rep ok s'.heap v d) E s
def TruD (d : D) (b : Bool) : Prop := ∀ ok A s E v, Room n A → G.base.StaysIn s.heap → FreshOk ok s.heap → Rep ok s.heap v d →
  wpAny G.M A (truthy v) (fun r s' => Stp G.base s s' ∧ r = b) E s
def IdxD (do_ di d : D) : Prop := ∀ ok A s E vo vi, Room n A → G.base.StaysIn s.heap → FreshOk ok s.heap → Rep ok s.heap vo do_ → Rep ok s.heap vi di →
  wpAny G.M A (getItem vo vi) (fun v s' => Stp G.base s s' ∧ Rep ok s'.heap v d) E s
/-- the call of a method comes to this callee with the object first -/
def MethD (d : D) (name : Str) (f : Value) : Prop := ∀ ok A s E v pl, Room n A → G.base.StaysIn s.heap → FreshOk ok s.heap → Rep ok s.heap v d →
  wpAny G.M A (getMethod v name pl) (fun r s' => Stp G.base s s' ∧ r = (f, [v])) E s
end

end Mine

end
section
open PySem PySem.W PyProof.Rows PySem.Calls
set_option maxRecDepth 100000
namespace Mine

section
variable {G : Gr} {n : Nat} {env : Env} {σ : St}

/-- borrowed: the value may be a list that the frame still fills -/
def EvB (G : Gr) (n : Nat) (env : Env) (σ : St) (e : Expr) (d : D) : Prop := ∀ ok A s E, Room n A → G.base.StaysIn s.heap → Inv G.base ok env σ s.heap →
  wpAny G.M A (eval e env) (fun v s' => Stp G.base s s' ∧ Rep ok s'.heap v d) E s
theorem Ev.b {e : Expr} {d : D} (h : Ev G n env σ e d) : EvB G n env σ e d := fun ok A s E r k i =>
  wpAny_mono (h ok A s E r k i) (fun _ _ p => ⟨p.1, p.2.weak fun _ q => q.1⟩) fun _ _ x => x
theorem Ev.cast {e : Expr} {d d' : D} (h : Ev G n env σ e d) (q : d = d') : Ev G n env σ e d' := q ▸ h

def Atomic : D → Bool
  | .none | .bool _ | .int _ | .str _ | .bytes _ | .raw _ => true
  | _ => false
theorem Rep.atomic {ok ok' : Addr → Prop} {h h' : Heap} {v : Value} {d : D} (r : Rep ok h v d) (a : Atomic d = true) : Rep ok' h' v d := by
  cases r <;> first | (cases a; done) | constructor
theorem EvB.atomic {e : Expr} {d : D} (h : EvB G n env σ e d) (a : Atomic d = true) : Ev G n env σ e d := fun ok A s E r k i =>
  wpAny_mono (h ok A s E r k i) (fun _ _ p => ⟨p.1, p.2.atomic a⟩) fun _ _ x => x

theorem Ev.int {i : Int} {k : Nat} {p : Pos} : Ev G n env σ (.Constant (.int i) k p) (.int i) := fun _ _ _ _ _ _ _ => wpAny_Constant_int ⟨.tok, .int _ _⟩
theorem Ev.str {x : Str} {k : Nat} {p : Pos} : Ev G n env σ (.Constant (.str x) k p) (.str x) := fun _ _ _ _ _ _ _ => Constant_str ⟨.tok, .str _ _⟩
theorem Ev.bool {b : Bool} {k : Nat} {p : Pos} : Ev G n env σ (.Constant (.bool b) k p) (.bool b) := fun _ _ _ _ _ _ _ => Constant_bool ⟨.refl, .bool _⟩
theorem Ev.none {k : Nat} {p : Pos} : Ev G n env σ (.Constant .none k p) .none := fun _ _ _ _ _ _ _ => Constant_none ⟨.refl, .none⟩

theorem wpAny_holds {A : Around} {E : Value → Shared → Prop} {s : Shared} {x : Str} {p : Pos} {v : Value} {Q : Value → Shared → Prop} {M : Model} (hk : env.scope.kind = .function) (q : Holds env s.heap x v) (h : Q v s)
    (hd : (x == ("__debug__" : Str)) = false) (hc : (x == ("__classdict__" : Str)) = false) : wpAny M A (eval (.Name x p) env) Q E s := by
  refine wpAny_Name ?_ hd
  rcases q with ⟨k, m, hn, hv⟩ | ⟨k | k, c, hl, hv⟩
  · exact wpAny_loadName_local hk k hn hv h
  · exact wpAny_loadName_cell hk k hl hv h
  · exact wpAny_loadName_free hk k hl hv h hc

theorem Ev.name {x : Str} {p : Pos} {d : D} (hl : σ.lookup x = some (.val d)) (hd : (x == ("__debug__" : Str)) = false := by decide) (hc : (x == ("__classdict__" : Str)) = false := by decide) :
    Ev G n env σ (.Name x p) d := fun _ _ _ _ _ _ i => by
  obtain ⟨v, q, r⟩ := i.vals x d hl
  exact wpAny_holds i.frame.kind q ⟨.refl, r⟩ hd hc
theorem EvB.own {x : Str} {p : Pos} {a : Addr} {ds : List D} (hl : σ.lookup x = some (.own a ds)) (hd : (x == ("__debug__" : Str)) = false := by decide) (hc : (x == ("__classdict__" : Str)) = false := by decide) :
    EvB G n env σ (.Name x p) (.list ds) := fun _ _ _ _ _ _ i => by
  obtain ⟨q, o, vs, l, r⟩ := i.owns x a ds hl
  exact wpAny_holds i.frame.kind q ⟨.refl, .list o l.list (r.weak fun _ q => q.1)⟩ hd hc

theorem Ev.global {x : Str} {p : Pos} {v : Value} {d : D} (hk : env.kindOf x = some .globalImplicit) (hv : G.mg x = some v) (hr : ∀ ok h, Rep ok h v d) (hd : (x == ("__debug__" : Str)) = false := by decide) :
    Ev G n env σ (.Name x p) d := fun _ _ _ _ _ k i =>
  Name_function_global i.frame.kind hk (loadGlobal_global (by rw [i.frame.glob]; exact G.g.keeps k) hv ⟨.refl, hr _ _⟩) hd
theorem Ev.builtin {x : Str} {p : Pos} {v : Value} (hk : env.kindOf x = some .globalImplicit) (hg : G.mg x = .none) (hv : bootBuiltins x = some v) (hn : x ≠ "__name__" := by decide) (hd : (x == ("__debug__" : Str)) = false := by decide) :
    Ev G n env σ (.Name x p) (.raw v) := fun _ _ _ _ _ k i =>
  Name_function_global i.frame.kind hk (loadGlobal_builtin (by rw [i.frame.glob]; exact G.g.keeps k) hg (by rw [i.frame.blt]; exact G.b.keeps k) ((G.bb x hn).trans hv) ⟨.refl, .raw _⟩) hd

theorem Ev.binop {a b : Expr} {op : Operator} {p : Pos} {da db d : D} (ha : Ev G n env σ a da) (hb : Ev G n env σ b db) (ho : BinD G n op da db d) : Ev G n env σ (.BinOp a op b p) d := fun ok A s E r k i =>
  wpAny_BinOp (wpAny_mono (ha ok A s E r k i) (fun va s₁ p₁ => wpAny_mono (hb ok A s₁ E r (p₁.1.ext.base k) (i.ext p₁.1.ext)) (fun vb s₂ p₂ =>
    have st := p₁.1.trans p₂.1
    wpAny_mono (ho _ A s₂ E va vb r (st.ext.base k) (i.ext st.ext).freshO (p₁.2.stp p₂.1) p₂.2) (fun _ _ p₃ => ⟨st.trans p₃.1, p₃.2⟩) fun _ _ x => x) fun _ _ x => x) fun _ _ x => x)

theorem Ev.cmp {a b : Expr} {op : CmpOp} {p : Pos} {da db : D} {c : Bool} (ha : EvB G n env σ a da) (hb : EvB G n env σ b db) (ho : CmpD G n op da db c) (hm : behindInMarks op b = false := by with_unfolding_all rfl) :
    Ev G n env σ (.Compare a [op] [b] p) (.bool c) := fun ok A s E r k i =>
  wpAny_Compare1 (wpAny_mono (ha ok A s E r k i) (fun va s₁ p₁ => wpAny_mono (hb ok A s₁ E r (p₁.1.ext.base k) (i.ext p₁.1.ext)) (fun vb s₂ p₂ =>
    have st := p₁.1.trans p₂.1
    wpAny_mono (ho _ A s₂ E va vb r (st.ext.base k) (i.ext st.ext).fresh (p₁.2.stp p₂.1) p₂.2) (fun _ _ p₃ => ⟨st.trans p₃.1, p₃.2 ▸ .bool _⟩) fun _ _ x => x) fun _ _ x => x) fun _ _ x => x) hm
theorem Tr.cmp {a b : Expr} {op : CmpOp} {p : Pos} {da db : D} {c : Bool} (ha : EvB G n env σ a da) (hb : EvB G n env σ b db) (ho : CmpD G n op da db c) (hm : behindInMarks op b = false := by with_unfolding_all rfl) :
    Tr G n env σ (.Compare a [op] [b] p) c := fun ok A s E r k i =>
  wpAny_isTrue_Compare1 (wpAny_mono (ha ok A s E r k i) (fun va s₁ p₁ => wpAny_mono (hb ok A s₁ E r (p₁.1.ext.base k) (i.ext p₁.1.ext)) (fun vb s₂ p₂ =>
    have st := p₁.1.trans p₂.1
    wpAny_mono (ho _ A s₂ E va vb r (st.ext.base k) (i.ext st.ext).fresh (p₁.2.stp p₂.1) p₂.2) (fun _ _ p₃ => by rw [p₃.2]; exact wpAny_truthy_bool ⟨st.trans p₃.1, rfl⟩) fun _ _ x => x) fun _ _ x => x) fun _ _ x => x) hm

theorem Tr.plain {e : Expr} {d : D} {c : Bool} (h : EvB G n env σ e d) (ht : TruD G n d c)
    (he : ∀ whole, isTrue e env whole = (do let v ← whole; standAt e.pos; holding [v] (truthy v)) := by intro _; rfl) : Tr G n env σ e c := fun ok A s E r k i =>
  isTrue_plain (wpAny_mono (h ok A s E r k i) (fun v s₁ p₁ => wpAny_mono (ht ok A s₁ E v r (p₁.1.ext.base k) (i.ext p₁.1.ext).fresh p₁.2) (fun _ _ p₂ => ⟨p₁.1.trans p₂.1, p₂.2⟩) fun _ _ x => x) fun _ _ x => x) (he _)
theorem Tr.not {e : Expr} {p : Pos} {c : Bool} (h : Tr G n env σ e c) : Tr G n env σ (.UnaryOp .Not e p) (!c) := fun ok A s E r k i =>
  isTrue_not (wpAny_mono (h ok A s E r k i) (fun _ _ p => ⟨p.1, by rw [p.2]⟩) fun _ _ x => x)
theorem Tr.and_nil {p : Pos} : Tr G n env σ (.BoolOp .And [] p) true := fun _ _ _ _ _ _ _ => isTrue_and_nil ⟨.refl, rfl⟩
theorem Tr.or_nil {p : Pos} : Tr G n env σ (.BoolOp .Or [] p) false := fun _ _ _ _ _ _ _ => isTrue_or_nil ⟨.refl, rfl⟩
theorem Tr.and {e : Expr} {es : List Expr} {p : Pos} {c c' : Bool} (h : Tr G n env σ e c) (h' : c = true → Tr G n env σ (.BoolOp .And es p) c') : Tr G n env σ (.BoolOp .And (e :: es) p) (c && c') := fun ok A s E r k i =>
  isTrue_and (wpAny_mono (h ok A s E r k i) (fun b s₁ p₁ => by
    obtain ⟨st, rfl⟩ := p₁
    cases b with
    | false => exact ⟨st, rfl⟩
    | true => exact wpAny_mono (h' rfl ok A s₁ E r (st.ext.base k) (i.ext st.ext)) (fun _ _ p₂ => ⟨st.trans p₂.1, by rw [p₂.2]; rfl⟩) fun _ _ x => x) fun _ _ x => x)
theorem Tr.or {e : Expr} {es : List Expr} {p : Pos} {c c' : Bool} (h : Tr G n env σ e c) (h' : c = false → Tr G n env σ (.BoolOp .Or es p) c') : Tr G n env σ (.BoolOp .Or (e :: es) p) (c || c') := fun ok A s E r k i =>
  isTrue_or (wpAny_mono (h ok A s E r k i) (fun b s₁ p₁ => by
    obtain ⟨st, rfl⟩ := p₁
    cases b with
    | true => exact ⟨st, rfl⟩
    | false => exact wpAny_mono (h' rfl ok A s₁ E r (st.ext.base k) (i.ext st.ext)) (fun _ _ p₂ => ⟨st.trans p₂.1, by rw [p₂.2]; rfl⟩) fun _ _ x => x) fun _ _ x => x)
theorem Tr.cast {e : Expr} {c c' : Bool} (h : Tr G n env σ e c) (q : c = c') : Tr G n env σ e c' := q ▸ h

theorem Ev.ifexp {t a b : Expr} {p : Pos} {c : Bool} {d : D} (h : Tr G n env σ t c) (ha : c = true → Ev G n env σ a d) (hb : c = false → Ev G n env σ b d) : Ev G n env σ (.IfExp t a b p) d := fun ok A s E r k i =>
  IfExp_ (wpAny_mono (h ok A s E r k i) (fun b s₁ p₁ => by
    obtain ⟨st, rfl⟩ := p₁
    cases b with
    | true => exact wpAny_mono (ha rfl ok A s₁ E r (st.ext.base k) (i.ext st.ext)) (fun _ _ p₂ => ⟨st.trans p₂.1, p₂.2⟩) fun _ _ x => x
    | false => exact wpAny_mono (hb rfl ok A s₁ E r (st.ext.base k) (i.ext st.ext)) (fun _ _ p₂ => ⟨st.trans p₂.1, p₂.2⟩) fun _ _ x => x) fun _ _ x => x)
theorem Ev.not {e : Expr} {p : Pos} {d : D} {c : Bool} (h : EvB G n env σ e d) (ht : TruD G n d c) : Ev G n env σ (.UnaryOp .Not e p) (.bool (!c)) := fun ok A s E r k i =>
  UnaryOp_ (wpAny_mono (h ok A s E r k i) (fun v s₁ p₁ => not_of (wpAny_mono (ht ok A s₁ E v r (p₁.1.ext.base k) (i.ext p₁.1.ext).fresh p₁.2) (fun _ _ p₂ => ⟨p₁.1.trans p₂.1, by rw [p₂.2]; exact .bool _⟩) fun _ _ x => x)) fun _ _ x => x)

/-- a row of arguments or items -/
def EvL (G : Gr) (n : Nat) (env : Env) (σ : St) (es : List Expr) (ds : List D) : Prop := ∀ ok A s E p, Room n A → G.base.StaysIn s.heap → Inv G.base ok env σ s.heap →
  wpAny G.M A (spliced (backTo p (starEach es env))) (fun vs s' => Stp G.base s s' ∧ RepAll (okO ok σ) s'.heap vs ds) E s
def EvLB (G : Gr) (n : Nat) (env : Env) (σ : St) (es : List Expr) (ds : List D) : Prop := ∀ ok A s E p, Room n A → G.base.StaysIn s.heap → Inv G.base ok env σ s.heap →
  wpAny G.M A (spliced (backTo p (starEach es env))) (fun vs s' => Stp G.base s s' ∧ RepAll ok s'.heap vs ds) E s
def noStar : List Expr → Bool
  | [] => true
  | .Starred .. :: _ => false
  | _ :: r => noStar r
theorem EvL.nil : EvL G n env σ [] [] := fun _ _ _ _ _ _ _ _ => args_nil ⟨.refl, .nil⟩
theorem EvL.cons {e : Expr} {es : List Expr} {d : D} {ds : List D} (h : Ev G n env σ e d) (hs : EvL G n env σ es ds) (he : starEach (e :: es) env = (false, eval e env) :: starEach es env := by rfl) : EvL G n env σ (e :: es) (d :: ds) := fun ok A s E p r k i =>
  args_cons (wpAny_mono (h ok A s E r k i) (fun v s₁ p₁ => wpAny_mono (hs ok A s₁ E p r (p₁.1.ext.base k) (i.ext p₁.1.ext)) (fun vs s₂ p₂ => ⟨p₁.1.trans p₂.1, .cons (p₁.2.stp p₂.1) p₂.2⟩) fun _ _ x => x) fun _ _ x => x) he
theorem EvLB.nil : EvLB G n env σ [] [] := fun _ _ _ _ _ _ _ _ => args_nil ⟨.refl, .nil⟩
theorem EvLB.cons {e : Expr} {es : List Expr} {d : D} {ds : List D} (h : EvB G n env σ e d) (hs : EvLB G n env σ es ds) (he : starEach (e :: es) env = (false, eval e env) :: starEach es env := by rfl) : EvLB G n env σ (e :: es) (d :: ds) := fun ok A s E p r k i =>
  args_cons (wpAny_mono (h ok A s E r k i) (fun v s₁ p₁ => wpAny_mono (hs ok A s₁ E p r (p₁.1.ext.base k) (i.ext p₁.1.ext)) (fun vs s₂ p₂ => ⟨p₁.1.trans p₂.1, .cons (p₁.2.stp p₂.1) p₂.2⟩) fun _ _ x => x) fun _ _ x => x) he

/-- what may stand at a call's head -/
inductive Callee (G : Gr) : Value → Prop
  | builtin (id : String) : Callee G (.builtin id)
  | type (T : String) : Callee G (.type T)
  | fn {a : Addr} {o : Obj} {fd : FuncData} : G.base.get? a = some o → o.data = .func fd → Callee G (.ref a)

theorem callWith_callee {M : Model} {A : Around} {E : Value → Shared → Prop} {s : Shared} {pos : Pos} {f : Value} {first : List Value} {es : List Expr} {Q : Value → Shared → Prop} (c : Callee G f)
    (hplain : (backTo pos (starEach es env)).any (·.1) = false)
    (h : wpAny M A (spliced (backTo pos (starEach es env))) (fun vs s₁ => G.base.StaysIn s₁.heap ∧ wpAny M A (call f (first ++ vs)) Q E s₁) E s) (hns : noStar es = true) :
    wpAny M A (callWith pos f first (backTo pos (starEach es env)) []) Q E s := by
  have hargs : ∀ {Q' : Args → Shared → Prop}, wpAny M A (spliced (backTo pos (starEach es env))) (fun vs s₁ => Q' ⟨vs, []⟩ s₁) E s → wpAny M A (evalArgs f true (backTo pos (starEach es env)) []) Q' E s := by
    intro Q' hq
    cases es with
    | nil =>
      have e1 : evalArgs f true (backTo pos (starEach [] env)) [] = (pure ⟨[], []⟩ : Sem Args) := rfl
      rw [e1]
      exact fun Γ p hΓ => hq Γ p hΓ
    | cons e r =>
      have he : starEach (e :: r) env = (false, eval e env) :: starEach r env := by
        cases e <;> first | rfl | cases hns
      rw [he] at hq ⊢
      exact evalArgs_plain hq
  cases c with
  | builtin id => exact callWith_builtin hplain (hargs (wpAny_mono h (fun vs s₁ p => p.2) fun _ _ x => x))
  | type T => exact PyProof.Rows.callWith_type hplain (hargs (wpAny_mono h (fun vs s₁ p => p.2) fun _ _ x => x))
  | fn ho hd => exact callWith_function (hargs (wpAny_mono h (fun vs s₁ p => ⟨⟨p.1 _ _ ho, hd⟩, p.2⟩) fun _ _ x => x))

theorem Ev.call {x : Str} {p pos : Pos} {es : List Expr} {f : Value} {ds : List D} {d : D} (hf : Ev G n env σ (.Name x p) (.raw f)) (c : Callee G f) (ha : EvL G n env σ es ds) (hc : CallD G n f ds d)
    (hns : noStar es = true := by rfl) (hplain : (backTo pos (starEach es env)).any (·.1) = false := by rfl) : Ev G n env σ (.Call (.Name x p) es [] pos) d := fun ok A s E r k i =>
  Call_ (wpAny_mono (hf ok A s E r k i) (fun v s₁ p₁ => by
    obtain ⟨st, rp⟩ := p₁
    cases rp
    refine callWith_callee c hplain (wpAny_mono (ha ok A s₁ E pos r (st.ext.base k) (i.ext st.ext)) (fun vs s₂ p₂ => ⟨p₂.1.ext.base (st.ext.base k), ?_⟩) fun _ _ x => x) hns
    have st' := st.trans p₂.1
    exact wpAny_mono (hc _ A s₂ E vs r (st'.ext.base k) (i.ext st'.ext).freshO p₂.2) (fun _ _ p₃ => ⟨st'.trans p₃.1, p₃.2⟩) fun _ _ x => x) fun _ _ x => x)
theorem Ev.callB {x : Str} {p pos : Pos} {es : List Expr} {f : Value} {ds : List D} {d : D} (hf : Ev G n env σ (.Name x p) (.raw f)) (c : Callee G f) (ha : EvLB G n env σ es ds) (hc : CallD G n f ds d) (hat : Atomic d = true)
    (hns : noStar es = true := by rfl) (hplain : (backTo pos (starEach es env)).any (·.1) = false := by rfl) : Ev G n env σ (.Call (.Name x p) es [] pos) d := fun ok A s E r k i =>
  Call_ (wpAny_mono (hf ok A s E r k i) (fun v s₁ p₁ => by
    obtain ⟨st, rp⟩ := p₁
    cases rp
    refine callWith_callee c hplain (wpAny_mono (ha ok A s₁ E pos r (st.ext.base k) (i.ext st.ext)) (fun vs s₂ p₂ => ⟨p₂.1.ext.base (st.ext.base k), ?_⟩) fun _ _ x => x) hns
    have st' := st.trans p₂.1
    exact wpAny_mono (hc _ A s₂ E vs r (st'.ext.base k) (i.ext st'.ext).fresh p₂.2) (fun _ _ p₃ => ⟨st'.trans p₃.1, p₃.2.atomic hat⟩) fun _ _ x => x) fun _ _ x => x)

theorem Ev.meth {o : Expr} {name : Str} {apos pos : Pos} {es : List Expr} {f : Value} {dv : D} {ds : List D} {d : D} (ho : Ev G n env σ o dv) (hm : MethD G n dv name f) (c : Callee G f) (ha : EvL G n env σ es ds) (hc : CallD G n f (dv :: ds) d)
    (hns : noStar es = true := by rfl) (hplain : (backTo pos (starEach es env)).any (·.1) = false := by rfl)
    {pl : Sem Bool} (he : eval (.Call (.Attribute o name apos) es [] pos) env = (do
      let ov ← eval o env
      standAt apos.atName
      let (f, first) ← holding [ov] (getMethod ov name pl)
      callWith pos f first (backTo pos (starEach es env)) []) := by rfl) : Ev G n env σ (.Call (.Attribute o name apos) es [] pos) d := fun ok A s E r k i =>
  MethodCall_ (pl := pl) (wpAny_mono (ho ok A s E r k i) (fun v s₁ p₁ => wpAny_mono (hm _ A s₁ E v _ r (p₁.1.ext.base k) (i.ext p₁.1.ext).freshO p₁.2) (fun fx s₂ p₂ => by
    obtain ⟨st₂, rfl⟩ := p₂
    have st' := p₁.1.trans st₂
    refine callWith_callee c hplain (wpAny_mono (ha ok A s₂ E pos r (st'.ext.base k) (i.ext st'.ext)) (fun vs s₃ p₃ => ⟨p₃.1.ext.base (st'.ext.base k), ?_⟩) fun _ _ x => x) hns
    have st'' := st'.trans p₃.1
    exact wpAny_mono (hc _ A s₃ E _ r (st''.ext.base k) (i.ext st''.ext).freshO (.cons ((p₁.2.stp st₂).stp p₃.1) p₃.2)) (fun _ _ p₄ => ⟨st''.trans p₄.1, p₄.2⟩) fun _ _ x => x) fun _ _ x => x) fun _ _ x => x) he

theorem Ev.sub {o i : Expr} {p : Pos} {do_ di d : D} {T id : String} (ho : Ev G n env σ o do_) (hi : Ev G n env σ i di) (hx : IdxD G n do_ di d)
    (hT : ∀ ok (s : Shared) v, Rep ok s.heap v do_ → s.TypeIs v T) (hl : typeLookup (.type T) "__getitem__" = pure (some (.builtin id)))
    (hs : ∀ a b, ∃ ops, subscripted i false a b = operate ops (getItem a b) := by intro a b; first | exact ⟨[a, b], rfl⟩ | exact ⟨[b, a], rfl⟩) : Ev G n env σ (.Subscript o i p) d := fun ok A s E r k iv =>
  Subscript_ (wpAny_mono (ho ok A s E r k iv) (fun vo s₁ p₁ => wpAny_mono (hi ok A s₁ E r (p₁.1.ext.base k) (iv.ext p₁.1.ext)) (fun vi s₂ p₂ => by
    have st := p₁.1.trans p₂.1
    obtain ⟨ops, hs⟩ := hs vo vi
    exact tail_any (hT _ _ _ (p₁.2.stp p₂.1)) hl (wpAny_mono (hx _ A s₂ E vo vi r (st.ext.base k) (iv.ext st.ext).freshO (p₁.2.stp p₂.1) p₂.2) (fun _ _ p₃ => ⟨st.trans p₃.1, p₃.2⟩) fun _ _ x => x) hs) fun _ _ x => x) fun _ _ x => x)

theorem fresh_get {h : Heap} : h.get? h.objs.size = .none := by
  cases q : h.get? h.objs.size with
  | none => rfl
  | some o => exact absurd (Heap.lt_size q) (Nat.lt_irrefl _)

theorem Ev.list {es : List Expr} {p : Pos} {ds : List D} (h : EvL G n env σ es ds) (hz : ds.length ≤ sizeLine) : Ev G n env σ (.List es p) (.list ds) := fun ok A s E r k i =>
  List_ (wpAny_mono (h ok A s E p r k i) (fun vs s₁ p₁ => by
    refine wpAny_newObj_type ?_ (by show vs.toArray.size ≤ sizeLine; rw [List.size_toArray, p₁.2.length]; exact hz)
    have st : Stp G.base s₁ { s₁ with heap := s₁.heap.push { cls := .type "list", data := .seq vs.toArray } } := .push
    exact ⟨p₁.1.trans st, .list ((i.ext p₁.1.ext).freshO _ fresh_get) ⟨_, Heap.get?_push_size _ rfl, rfl, _, rfl⟩ (p₁.2.stp st)⟩) fun _ _ x => x)
theorem Ev.tuple {es : List Expr} {p : Pos} {k : Nat} {ds : List D} (h : EvL G n env σ es ds) (hz : ds.length ≤ sizeLine) : Ev G n env σ (.Tuple es k p) (.tuple ds) := fun ok A s E r k i =>
  Tuple_ (wpAny_mono (h ok A s E p r k i) (fun vs s₁ p₁ => by
    refine wpAny_newObj_type ?_ (by show vs.toArray.size ≤ sizeLine; rw [List.size_toArray, p₁.2.length]; exact hz)
    have st : Stp G.base s₁ { s₁ with heap := s₁.heap.push { cls := .type "tuple", data := .seq vs.toArray } } := .push
    exact ⟨p₁.1.trans st, .tuple ((i.ext p₁.1.ext).freshO _ fresh_get) ⟨_, Heap.get?_push_size _ rfl, rfl, _, rfl⟩ (p₁.2.stp st)⟩) fun _ _ x => x)

/-- a part of a slice -/
def EvO (G : Gr) (n : Nat) (env : Env) (σ : St) (e : Option Expr) (d : D) : Prop := ∀ ok A s E, Room n A → G.base.StaysIn s.heap → Inv G.base ok env σ s.heap →
  wpAny G.M A (evalPart e env) (fun v s' => Stp G.base s s' ∧ Rep (okO ok σ) s'.heap v d) E s
theorem EvO.none : EvO G n env σ .none .none := fun _ _ _ _ _ _ _ => wpAny_pure ⟨.refl, .none⟩
theorem EvO.some {e : Expr} {d : D} (h : Ev G n env σ e d) : EvO G n env σ (.some e) d := h
theorem Ev.slice {l u st : Option Expr} {p : Pos} {dl du ds : D} (hl : EvO G n env σ l dl) (hu : EvO G n env σ u du) (hs : EvO G n env σ st ds) : Ev G n env σ (.Slice l u st p) (.slice dl du ds) := fun ok A s E r k i =>
  wpAny_Slice (wpAny_mono (hl ok A s E r k i) (fun v1 s₁ p₁ => wpAny_mono (hu ok A s₁ E r (p₁.1.ext.base k) (i.ext p₁.1.ext)) (fun v2 s₂ p₂ => by
    have st := p₁.1.trans p₂.1
    refine wpAny_mono (hs ok A s₂ E r (st.ext.base k) (i.ext st.ext)) (fun v3 s₃ p₃ => ?_) fun _ _ x => x
    have st' := st.trans p₃.1
    have sp : Stp G.base s₃ { s₃ with heap := s₃.heap.push { cls := .type "slice", data := .fields #[v1, v2, v3] } } := .push
    exact ⟨st'.trans sp, .slice ((i.ext st'.ext).freshO _ fresh_get) (Heap.get?_push_size _ rfl) rfl rfl (((p₁.2.stp p₂.1).stp p₃.1).stp sp) ((p₂.2.stp p₃.1).stp sp) (p₃.2.stp sp)⟩) fun _ _ x => x) fun _ _ x => x)

end
end Mine

end
section
open PySem PySem.W PyProof.Rows PySem.Calls
set_option maxRecDepth 100000
namespace Mine

theorem lookup_setS_self {x : Str} {s : Slot} : ∀ σ : St, (setS x s σ).lookup x = some s
  | [] => by simp [setS]
  | (y, t) :: r => by
    unfold setS
    by_cases e : x = y
    · rw [if_pos e]; simp
    · rw [if_neg e, List.lookup_cons, beq_eq_false_iff_ne.mpr e]; exact lookup_setS_self r
theorem lookup_setS_ne {x y : Str} {s : Slot} (n : y ≠ x) : ∀ σ : St, (setS x s σ).lookup y = σ.lookup y
  | [] => by simp [setS, n]
  | (z, t) :: r => by
    unfold setS
    by_cases e : x = z
    · subst e; rw [if_pos rfl, List.lookup_cons, List.lookup_cons, beq_eq_false_iff_ne.mpr n]
    · rw [if_neg e, List.lookup_cons, List.lookup_cons]
      cases y == z <;> simp [lookup_setS_ne n r]
theorem owned_of_lookup {x : Str} {a : Addr} {ds : List D} : ∀ {σ : St}, σ.lookup x = some (.own a ds) → a ∈ owned σ
  | (y, t) :: r, h => by
    rw [List.lookup_cons] at h
    cases e : x == y with
    | true => rw [e] at h; cases h; exact List.mem_cons_self
    | false =>
      rw [e] at h
      have := owned_of_lookup h
      cases t with
      | val d => exact this
      | own b es => exact List.mem_cons_of_mem _ this
def slotAddr : Slot → List Addr
  | .val _ => []
  | .own a _ => [a]
theorem owned_cons (x : Str) (s : Slot) (r : St) : owned ((x, s) :: r) = slotAddr s ++ owned r := by cases s <;> rfl
/-- what setS does to the owned ones -/
theorem owned_setS (x : Str) (s : Slot) : ∀ σ : St, ∃ l₁ l₂ l₃, owned σ = l₁ ++ l₂ ++ l₃ ∧ owned (setS x s σ) = l₁ ++ slotAddr s ++ l₃ ∧ (∀ t, σ.lookup x = some t → l₂ = slotAddr t)
  | [] => ⟨[], [], [], rfl, by cases s <;> rfl, fun t h => by cases h⟩
  | (y, t) :: r => by
    unfold setS
    by_cases e : x = y
    · subst e
      rw [if_pos rfl, owned_cons, owned_cons]
      exact ⟨[], slotAddr t, owned r, by simp, by simp, fun t' h => by simp at h; rw [h]⟩
    · rw [if_neg e, owned_cons, owned_cons]
      obtain ⟨l₁, l₂, l₃, h1, h2, h3⟩ := owned_setS x s r
      refine ⟨slotAddr t ++ l₁, l₂, l₃, by rw [h1]; simp, by rw [h2]; simp, fun t' h => h3 t' ?_⟩
      rw [List.lookup_cons, beq_eq_false_iff_ne.mpr e] at h; exact h
theorem owned_setS_sub {x : Str} {s : Slot} {σ : St} {a : Addr} (h : a ∈ owned (setS x s σ)) : a ∈ owned σ ∨ a ∈ slotAddr s := by
  obtain ⟨l₁, l₂, l₃, h1, h2, _⟩ := owned_setS x s σ
  rw [h2] at h; rw [h1]
  simp only [List.mem_append] at h ⊢
  rcases h with (h | h) | h <;> simp [h]
theorem owned_setS_val {x : Str} {d : D} {σ : St} {a : Addr} (h : a ∈ owned (setS x (.val d) σ)) : a ∈ owned σ := (owned_setS_sub h).elim id fun h => nomatch h
theorem nodup_setS_val {x : Str} {d : D} {σ : St} (h : (owned σ).Nodup) : (owned (setS x (.val d) σ)).Nodup := by
  obtain ⟨l₁, l₂, l₃, h1, h2, _⟩ := owned_setS x (.val d) σ
  rw [h1] at h; rw [h2]
  exact h.sublist (by simp [slotAddr, List.append_assoc])
theorem nodup_setS_own {x : Str} {a : Addr} {ds : List D} {σ : St} (h : (owned σ).Nodup) (n : a ∉ owned σ ∨ ∃ es, σ.lookup x = some (.own a es)) : (owned (setS x (.own a ds) σ)).Nodup := by
  obtain ⟨l₁, l₂, l₃, h1, h2, h3⟩ := owned_setS x (.own a ds) σ
  rw [h2]
  rcases n with n | ⟨es, n⟩
  · rw [h1] at h n
    simp only [slotAddr]
    have h' : (l₁ ++ l₃).Nodup := h.sublist (by simp [List.append_assoc])
    simp only [List.mem_append, not_or] at n
    rw [List.append_assoc]
    rw [List.nodup_append] at h' ⊢
    refine ⟨h'.1, ?_, ?_⟩
    · rw [List.singleton_append, List.nodup_cons]; exact ⟨n.2, h'.2.1⟩
    · intro p hp q hq e
      rw [List.singleton_append, List.mem_cons] at hq
      rcases hq with rfl | hq
      · exact n.1.1 (e ▸ hp)
      · exact h'.2.2 p hp q hq e
  · rw [h1, h3 _ n] at h; exact h
/-- the address goes out of the owned ones -/
theorem notMem_setS_val {x : Str} {a : Addr} {ds : List D} {d : D} {σ : St} (h : (owned σ).Nodup) (l : σ.lookup x = some (.own a ds)) : a ∉ owned (setS x (.val d) σ) := by
  obtain ⟨l₁, l₂, l₃, h1, h2, h3⟩ := owned_setS x (.val d) σ
  rw [h2]; rw [h1, h3 _ l] at h
  simp only [slotAddr, List.append_assoc, List.append_nil] at h ⊢
  intro m
  rw [List.nodup_append] at h
  rcases List.mem_append.mp m with m | m
  · exact h.2.2 a m a (by simp) rfl
  · have := h.2.1; simp at this; exact this.1 m

theorem node_not_frame {env : Env} {h : Heap} {a : Addr} (F : Frame env h) (n : IsNode h a) : ¬ FrW env a := by
  rintro (e | ⟨x, l⟩)
  · obtain ⟨m, o, es, ep, q, d, _⟩ := F.ns
    rw [← e] at q
    cases n with
    | list l => obtain ⟨o', q', _, k, d'⟩ := l; rw [q] at q'; cases q'; rw [d] at d'; cases d'
    | tup l => obtain ⟨o', q', _, k, d'⟩ := l; rw [q] at q'; cases q'; rw [d] at d'; cases d'
    | slice q' _ d' => rw [q] at q'; cases q'; rw [d] at d'; cases d'
    | rng q' => unfold IsRange at q'; rw [q] at q'; cases q'; cases d
  · obtain ⟨v, o, q, d⟩ := F.cells x a l
    cases n with
    | list l => obtain ⟨o', q', _, k, d'⟩ := l; rw [q] at q'; cases q'; rw [d] at d'; cases d'
    | tup l => obtain ⟨o', q', _, k, d'⟩ := l; rw [q] at q'; cases q'; rw [d] at d'; cases d'
    | slice q' _ d' => rw [q] at q'; cases q'; rw [d] at d'; cases d'
    | rng q' => unfold IsRange at q'; rw [q] at q'; cases q'; cases d

end Mine

end
section
open PySem PySem.W PyProof.Rows PySem.Calls
set_option maxRecDepth 100000
namespace Mine

inductive Fl where
  | next | brk | cont
  | ret (d : D)
def FlowIs (ok : Addr → Prop) (h : Heap) : Flow → Fl → Prop
  | .next, .next => True
  | .brk, .brk => True
  | .cont, .cont => True
  | .ret v, .ret d => Rep ok h v d
  | _, _ => False

structure Mv (base : Heap) (W : Addr → Prop) (s s' : Shared) : Prop where
  ext : ExtBut base W s.heap s'.heap
  dom : ∀ b, s'.heap.get? b = none → s.heap.get? b = none
  os : s'.os = s.os
  gens : GensKeep s.gens s'.gens
theorem Stp.mv {base : Heap} {W : Addr → Prop} {s s' : Shared} (x : Stp base s s') : Mv base W s s' := ⟨fun b o _ e => x.ext b o e, fun b e => x.ext.none e, x.os, x.gens⟩
theorem Mv.stp {base : Heap} {W : Addr → Prop} {s s' : Shared} (x : Mv base W s s') (h : ∀ b, W b → s.heap.get? b = none) : Stp base s s' := ⟨fun b o e => x.ext b o (fun q => by rw [h b q] at e; cases e) e, x.os, x.gens⟩
theorem Mv.trans {base : Heap} {W W' : Addr → Prop} {a b c : Shared} (x : Mv base W a b) (y : Mv base W' b c) (h : ∀ p, W' p → W p ∨ a.heap.get? p = none) : Mv base W a c := by
  refine ⟨fun p o n e => ?_, fun p e => x.dom p (y.dom p e), y.os.trans x.os, x.gens.trans y.gens⟩
  obtain ⟨o', e', c', d', k'⟩ := x.ext p o n e
  obtain ⟨o'', e'', c'', d'', k''⟩ := y.ext p o' (fun q => (h p q).elim n fun z => by rw [z] at e; cases e) e'
  refine ⟨o'', e'', c''.trans c', d''.trans d', fun q => ?_⟩
  have := k' q; subst this
  exact k'' q
theorem Mv.base {base : Heap} {W : Addr → Prop} {s s' : Shared} (x : Mv base W s s') (k : base.StaysIn s.heap) (h : ∀ a, W a → base.get? a = none) : base.StaysIn s'.heap := by
  intro b o e
  obtain ⟨o', e', _, _, k'⟩ := x.ext b o (fun q => by rw [h b q] at e; cases e) (k b o e)
  rw [e', k' (.inl (by rw [e]; rfl))]
section
variable {G : Gr} {n : Nat} {env : Env} {σ : St}

def After (G : Gr) (env : Env) (σ : St) (ok : Addr → Prop) (s : Shared) (Q : Fl → St → Prop) (f : Flow) (s' : Shared) : Prop :=
  ∃ fl σ', Q fl σ' ∧ FlowIs ok s'.heap f fl ∧ Inv G.base ok env σ' s'.heap ∧ Mv G.base (Wr env σ) s s' ∧ G.base.StaysIn s'.heap ∧ ∀ a ∈ owned σ', a ∈ owned σ ∨ s.heap.get? a = none
def Ex (G : Gr) (n : Nat) (env : Env) (σ : St) (body : List Stmt) (Q : Fl → St → Prop) : Prop := ∀ ok A s E, Room n A → G.base.StaysIn s.heap → Inv G.base ok env σ s.heap →
  wpAny G.M A (execs body env) (After G env σ ok s Q) E s
def Ex1 (G : Gr) (n : Nat) (env : Env) (σ : St) (st : Stmt) (Q : Fl → St → Prop) : Prop := ∀ ok A s E, Room n A → G.base.StaysIn s.heap → Inv G.base ok env σ s.heap →
  wpAny G.M A (exec st env) (After G env σ ok s Q) E s

theorem After.trans {ok : Addr → Prop} {σ₁ : St} {s s₁ s₂ : Shared} {Q : Fl → St → Prop} {f : Flow} (m : Mv G.base (Wr env σ) s s₁) (o : ∀ a ∈ owned σ₁, a ∈ owned σ ∨ s.heap.get? a = none) (a : After G env σ₁ ok s₁ Q f s₂)
    (z : ∀ b, s₁.heap.get? b = none → s.heap.get? b = none) : After G env σ ok s Q f s₂ := by
  obtain ⟨fl, σ', q, fi, i, m', k, o'⟩ := a
  refine ⟨fl, σ', q, fi, i, m.trans m' ?_, k, fun b hb => ?_⟩
  · rintro p (h | h)
    · exact .inl (.inl h)
    · exact (o p h).imp .inr id
  · rcases o' b hb with h | h
    · exact o b h
    · exact .inr (z b h)
theorem After.mono {ok : Addr → Prop} {s s' : Shared} {Q Q' : Fl → St → Prop} {f : Flow} (a : After G env σ ok s Q f s') (h : ∀ fl σ', Q fl σ' → Q' fl σ') : After G env σ ok s Q' f s' := by
  obtain ⟨fl, σ', q, r⟩ := a
  exact ⟨fl, σ', h _ _ q, r⟩
theorem Ex.mono {body : List Stmt} {Q Q' : Fl → St → Prop} (a : Ex G n env σ body Q) (h : ∀ fl σ', Q fl σ' → Q' fl σ') : Ex G n env σ body Q' := fun ok A s E r k i => wpAny_mono (a ok A s E r k i) (fun _ _ p => p.mono h) fun _ _ x => x
theorem Ex1.mono {st : Stmt} {Q Q' : Fl → St → Prop} (a : Ex1 G n env σ st Q) (h : ∀ fl σ', Q fl σ' → Q' fl σ') : Ex1 G n env σ st Q' := fun ok A s E r k i => wpAny_mono (a ok A s E r k i) (fun _ _ p => p.mono h) fun _ _ x => x

theorem Ex.nil {Q : Fl → St → Prop} (h : Q .next σ) : Ex G n env σ [] Q := fun ok A s E r k i => wpAny_execs_nil ⟨.next, σ, h, trivial, i, Stp.refl.mv, k, fun _ h => .inl h⟩
theorem Ex.cons {st : Stmt} {rest : List Stmt} {Q : Fl → St → Prop} (h : Ex1 G n env σ st fun fl σ' => match fl with | .next => Ex G n env σ' rest Q | fl => Q fl σ') : Ex G n env σ (st :: rest) Q := fun ok A s E r k i =>
  wpAny_execs_cons (wpAny_mono (h ok A s E r k i) (fun f s' a => by
    obtain ⟨fl, σ', q, fi, i', m, k', o⟩ := a
    cases f <;> cases fl <;> first | exact fi.elim | skip
    · exact wpAny_mono (q ok A s' E r k' i') (fun _ _ a => a.trans m o m.dom) fun _ _ x => x
    · exact ⟨.brk, σ', q, trivial, i', m, k', o⟩
    · exact ⟨.cont, σ', q, trivial, i', m, k', o⟩
    · exact ⟨.ret _, σ', q, fi, i', m, k', o⟩) fun _ _ x => x)
/-- a statement that only steps on to a state -/
theorem Ex.step {st : Stmt} {rest : List Stmt} {Q : Fl → St → Prop} {P : St → Prop} (h : Ex1 G n env σ st fun fl σ' => fl = .next ∧ P σ') (hr : ∀ σ', P σ' → Ex G n env σ' rest Q) : Ex G n env σ (st :: rest) Q :=
  .cons (h.mono fun fl σ' p => by obtain ⟨rfl, p⟩ := p; exact hr σ' p)
theorem Ex.one {st : Stmt} {rest : List Stmt} {Q : Fl → St → Prop} {σ' : St} (h : Ex1 G n env σ st fun fl σ'' => fl = .next ∧ σ'' = σ') (hr : Ex G n env σ' rest Q) : Ex G n env σ (st :: rest) Q :=
  .step h fun _ e => e ▸ hr

theorem ne_of_isSome {s : Shared} {a b : Addr} {o : Obj} (h : s.heap.get? a = some o) (e : s.heap.get? b = none) : a ≠ b := fun q => by rw [q, e] at h; cases h

/-- a name of the frame that may be stored -/
def Storable (env : Env) (x : Str) : Prop := env.kindOf x = some .local ∨ (env.kindOf x = some .cell ∧ (env.cells.lookup x).isSome = true)

theorem cells_inj {cs : List (Str × Addr)} (hp : cs.Pairwise fun x y => x.2 ≠ y.2) {x y : Str} {c : Addr} (hx : cs.lookup x = some c) (hy : cs.lookup y = some c) : x = y :=
  name_of_addr hp (mem_of_lookup hx) (mem_of_lookup hy)

theorem wpAny_store {M : Model} {A : Around} {E : Value → Shared → Prop} {s : Shared} {base : Heap} {x : Str} {v : Value} {Q : Unit → Shared → Prop} (F : Frame env s.heap) (hx : Storable env x)
    (h : ∀ s', Holds env s'.heap x v → (∀ y u, y ≠ x → Holds env s.heap y u → Holds env s'.heap y u) → Frame env s'.heap → Mv base (FrW env) s s' → Q () s') : wpAny M A (storeName env x v) Q E s := by
  rcases hx with hk | ⟨hk, hc⟩
  · obtain ⟨m, hn⟩ := F.ns
    refine wpAny_storeName_local hk hn (fun h' hn' hs' => ?_) (by rw [F.kind]; rfl)
    have hL : ∃ o, h'.get? env.locals = some o := let ⟨o, _, _, q, _⟩ := hn'; ⟨o, q⟩
    have keep : ∀ b, b ≠ env.locals → h'.get? b = s.heap.get? b := fun b hb => hs'.2 b hb
    refine h _ (.inl ⟨hk, _, hn', by simp⟩) (fun y u hy q => ?_) ⟨F.kind, ⟨_, hn'⟩, fun z c l => ?_, F.apart, F.away, F.glob, F.blt⟩ ⟨fun b o w e => ⟨o, (keep b fun q => w (.inl q)).trans e, rfl, rfl, fun _ => rfl⟩, fun b e => ?_, rfl, .refl⟩
    · rcases q with ⟨k, m', n', r⟩ | ⟨k, c, l, r⟩
      · refine .inl ⟨k, _, hn', ?_⟩
        have : m' y = m y := by
          obtain ⟨o, es, ep, q1, q2, _, q3⟩ := n'
          obtain ⟨o₂, es₂, ep₂, p1, p2, _, p3⟩ := hn
          rw [q1] at p1; cases p1; rw [q2] at p2; cases p2
          rw [← q3, ← p3]
        simp [hy, ← this, r]
      · exact .inr ⟨k, c, l, r.sameBut hs' (F.away y c l)⟩
    · obtain ⟨u, q⟩ := F.cells z c l
      exact ⟨u, q.sameBut hs' (F.away z c l)⟩
    · by_cases hb : b = env.locals
      · obtain ⟨o, q⟩ := hL
        have e' : h'.get? b = none := e
        rw [hb, q] at e'; cases e'
      · rw [← keep b hb]; exact e
  · obtain ⟨c, hc⟩ := Option.isSome_iff_exists.mp hc
    obtain ⟨u₀, hcell⟩ := F.cells x c hc
    refine wpAny_storeName_cell F.kind hk hc hcell fun h' hc' hs' => ?_
    have keep : ∀ b, b ≠ c → h'.get? b = s.heap.get? b := fun b hb => hs'.2 b hb
    obtain ⟨m, hn⟩ := F.ns
    refine h _ (.inr ⟨.inl hk, c, hc, hc'⟩) (fun y u hy q => ?_) ⟨F.kind, ⟨m, hn.sameBut hs' (Ne.symm (F.away x c hc))⟩, fun z c' l => ?_, F.apart, F.away, F.glob, F.blt⟩ ⟨fun b o w e => ⟨o, (keep b fun q => w (.inr ⟨x, q ▸ hc⟩)).trans e, rfl, rfl, fun _ => rfl⟩, fun b e => ?_, rfl, .refl⟩
    · rcases q with ⟨k, m', n', r⟩ | ⟨k, c', l, r⟩
      · exact .inl ⟨k, m', n'.sameBut hs' (Ne.symm (F.away x c hc)), r⟩
      · exact .inr ⟨k, c', l, r.sameBut hs' fun q => hy (cells_inj F.apart l (q ▸ hc))⟩
    · by_cases hz : c' = c
      · subst hz; exact ⟨_, hc'⟩
      · obtain ⟨u, q⟩ := F.cells z c' l
        exact ⟨u, q.sameBut hs' hz⟩
    · by_cases hb : b = c
      · obtain ⟨o, q, _⟩ := hc'
        have e' : h'.get? b = none := e
        rw [hb, q] at e'; cases e'
      · rw [← keep b hb]; exact e
end
end Mine

end
section
open PySem PySem.W PyProof.Rows PySem.Calls
set_option maxRecDepth 100000
namespace Mine

section
variable {G : Gr} {n : Nat} {env : Env} {σ : St}

theorem Inv.set_val {base : Heap} {ok : Addr → Prop} {s s' : Shared} {x : Str} {v : Value} {d : D} (i : Inv base ok env σ s.heap) (m : Mv base (FrW env) s s') (F : Frame env s'.heap) (hx : Holds env s'.heap x v)
    (ho : ∀ y u, y ≠ x → Holds env s.heap y u → Holds env s'.heap y u) (r : Rep (okO ok σ) s.heap v d) : Inv base ok env (setS x (.val d) σ) s'.heap := by
  have nf : ∀ {P : Addr → Prop} a, P a → IsNode s.heap a → ¬ FrW env a := fun a _ q => node_not_frame i.frame q
  have up : ∀ a, okO ok σ a → okO ok (setS x (.val d) σ) a := fun a q => ⟨q.1, fun z => q.2 (owned_setS_val z)⟩
  refine ⟨F, fun a w => i.off a (w.imp id fun z => owned_setS_val z), fun b e => i.fresh b (m.dom b e), fun y e l => ?_, fun y a ds l => ?_, fun a h => ?_, nodup_setS_val i.once⟩
  · by_cases hy : y = x
    · subst hy
      rw [lookup_setS_self] at l; cases l
      exact ⟨v, hx, r.extBut m.ext nf fun a q _ => up a q⟩
    · rw [lookup_setS_ne hy] at l
      obtain ⟨u, p, q⟩ := i.vals y e l
      exact ⟨u, ho y u hy p, q.extBut m.ext nf fun a q _ => up a q⟩
  · by_cases hy : y = x
    · subst hy; rw [lookup_setS_self] at l; cases l
    · rw [lookup_setS_ne hy] at l
      obtain ⟨p, q, vs, lst, rs⟩ := i.owns y a ds l
      exact ⟨ho y _ hy p, q, vs, m.ext.own (node_not_frame i.frame (.list lst.list)) lst, rs.extBut m.ext nf fun a q _ => up a q⟩
  · obtain ⟨vs, lst⟩ := i.there a (owned_setS_val h)
    exact ⟨vs, m.ext.own (node_not_frame i.frame (.list lst.list)) lst⟩

theorem Mv.weak {base : Heap} {W W' : Addr → Prop} {s s' : Shared} (x : Mv base W s s') (h : ∀ a, W a → W' a) : Mv base W' s s' := ⟨fun b o n e => x.ext b o (fun q => n (h b q)) e, x.dom, x.os, x.gens⟩

/-- x = e -/
theorem Ex1.assign {x : Str} {e : Expr} {p pos : Pos} {d : D} (h : Ev G n env σ e d) (hx : Storable env x) (hs : swapsWith e (some (.Name x p)) pos.line env = pure false := by rfl) :
    Ex1 G n env σ (.Assign [.Name x p] e pos) fun fl σ' => fl = .next ∧ σ' = setS x (.val d) σ := fun ok A s E r k i =>
  wpAny_Assign_Name (wpAny_mono (h ok A s E r k i) (fun v s₁ p₁ => by
    have i₁ := i.ext p₁.1.ext
    refine wpAny_store (base := G.base) i₁.frame hx fun s₂ hv ho F m => ?_
    have m' : Mv G.base (Wr env σ) s s₂ := (p₁.1.mv (W := Wr env σ)).trans (m.weak fun _ w => Or.inl w) fun _ w => .inl w
    exact ⟨.next, _, ⟨rfl, rfl⟩, trivial, i₁.set_val m F hv ho p₁.2, m', m'.base k i.off, fun a w => .inl (owned_setS_val w)⟩) fun _ _ x => x) hs

/-- an expression that makes a list -/
def EvF (G : Gr) (n : Nat) (env : Env) (σ : St) (e : Expr) (ds : List D) : Prop := ∀ ok A s E, Room n A → G.base.StaysIn s.heap → Inv G.base ok env σ s.heap →
  wpAny G.M A (eval e env) (fun v s' => Stp G.base s s' ∧ ∃ a vs, v = .ref a ∧ s.heap.get? a = none ∧ OwnL s'.heap a vs ∧ RepAll (fun b => okO ok σ b ∧ b ≠ a) s'.heap vs ds) E s
theorem EvF.ev {e : Expr} {ds : List D} (h : EvF G n env σ e ds) : Ev G n env σ e (.list ds) := fun ok A s E r k i =>
  wpAny_mono (h ok A s E r k i) (fun v s' p => by
    obtain ⟨st, a, vs, rfl, f, l, rs⟩ := p
    exact ⟨st, .list (i.freshO a f) l.list (rs.weak fun _ q => q.1)⟩) fun _ _ x => x
theorem EvF.list {es : List Expr} {p : Pos} {ds : List D} (h : EvL G n env σ es ds) (hz : ds.length ≤ sizeLine) : EvF G n env σ (.List es p) ds := fun ok A s E r k i =>
  List_ (wpAny_mono (h ok A s E p r k i) (fun vs s₁ p₁ => by
    refine wpAny_newObj_type ?_ (by show vs.toArray.size ≤ sizeLine; rw [List.size_toArray, p₁.2.length]; exact hz)
    have st : Stp G.base s₁ { s₁ with heap := s₁.heap.push { cls := .type "list", data := .seq vs.toArray } } := .push
    refine ⟨p₁.1.trans st, _, vs, rfl, p₁.1.ext.none fresh_get, ⟨_, Heap.get?_push_size _ rfl⟩, p₁.2.ext st.ext fun b q z => ⟨q, fun e => ?_⟩⟩
    rw [e, fresh_get] at z; cases z) fun _ _ x => x)

/-- a new list is stored, x from now on the frame's own to fill -/
theorem After.own {x : Str} {a : Addr} {vs : List Value} {ds : List D} {ok : Addr → Prop} {s s₁ s₂ : Shared} (k : G.base.StaysIn s.heap) (i : Inv G.base ok env σ s.heap) (st : Stp G.base s s₁) (f : s.heap.get? a = none) (l : OwnL s₁.heap a vs) (rs : RepAll (fun b => okO ok σ b ∧ b ≠ a) s₁.heap vs ds)
    (hv : Holds env s₂.heap x (.ref a)) (ho : ∀ y u, y ≠ x → Holds env s₁.heap y u → Holds env s₂.heap y u) (F : Frame env s₂.heap) (m : Mv G.base (FrW env) s₁ s₂) :
    Inv G.base ok env (setS x (.own a ds) σ) s₂.heap ∧ Mv G.base (Wr env σ) s s₂ ∧ G.base.StaysIn s₂.heap ∧ ∀ b ∈ owned (setS x (.own a ds) σ), b ∈ owned σ ∨ b = a := by
    have i₁ := i.ext st.ext
    have m' : Mv G.base (Wr env σ) s s₂ := (st.mv (W := Wr env σ)).trans (m.weak fun _ w => Or.inl w) fun _ w => .inl w
    have hno : a ∉ owned σ := fun w => by obtain ⟨_, _, q⟩ := i.there a w; rw [f] at q; cases q
    have hb : G.base.get? a = none := by
      cases q : G.base.get? a with
      | none => rfl
      | some o => rw [k a o q] at f; cases f
    have old : ∀ b, (s.heap.get? b).isSome = true → b ≠ a := fun b q e => by rw [e, f] at q; cases q
    refine ⟨?_, m', m'.base k i.off, fun b w => (owned_setS_sub w).imp id fun w => List.mem_singleton.mp w⟩
    have hax : Inv G.base ok env σ s.heap := i
    -- the trees of the other names stood before the list was made
    have i₀ : Inv G.base (fun b => ok b ∧ b ≠ a) env σ s₁.heap := by
      refine ⟨i₁.frame, i₁.off, fun b e => ⟨i₁.fresh b e, fun q => ?_⟩, fun y d l' => ?_, fun y b es l' => ?_, i₁.there, i₁.once⟩
      · obtain ⟨_, q'⟩ := l; rw [← q, e] at q'; cases q'
      · obtain ⟨u, p, q⟩ := i.vals y d l'
        exact ⟨u, p.ext st.ext, q.ext st.ext fun b w z => ⟨⟨w.1, old b z⟩, w.2⟩⟩
      · obtain ⟨p, q, us, w, t⟩ := i.owns y b es l'
        exact ⟨p.ext st.ext, ⟨q, old b w.some⟩, us, st.ext.own w, t.ext st.ext fun b w z => ⟨⟨w.1, old b z⟩, w.2⟩⟩
    have up : ∀ b, okO (fun b => ok b ∧ b ≠ a) σ b → okO ok (setS x (.own a ds) σ) b := fun b q => ⟨q.1.1, fun z => (owned_setS_sub z).elim q.2 fun w => q.1.2 (List.mem_singleton.mp w)⟩
    have nf : ∀ {P : Addr → Prop} a, P a → IsNode s₁.heap a → ¬ FrW env a := fun a _ q => node_not_frame i₁.frame q
    have lst' : ∀ {b us}, OwnL s₁.heap b us → OwnL s₂.heap b us := fun {b us} lst => m.ext.own (node_not_frame i₁.frame (.list lst.list)) lst
    refine ⟨F, fun b w => ?_, fun b e => i₁.fresh b (m.dom b e), fun y e l' => ?_, fun y b es l' => ?_, fun b h => ?_, nodup_setS_own i.once (.inl hno)⟩
    · rcases w with w | w
      · exact i.off b (.inl w)
      · rcases owned_setS_sub w with w | w
        · exact i.off b (.inr w)
        · rw [List.mem_singleton.mp w]; exact hb
    · by_cases hy : y = x
      · subst hy; rw [lookup_setS_self] at l'; cases l'
      · rw [lookup_setS_ne hy] at l'
        obtain ⟨u, p, q⟩ := i₀.vals y e l'
        exact ⟨u, ho y u hy p, q.extBut m.ext nf fun b q _ => up b q⟩
    · by_cases hy : y = x
      · subst hy
        rw [lookup_setS_self] at l'; cases l'
        exact ⟨hv, i.fresh a f, vs, lst' l, rs.extBut m.ext nf fun b q _ => up b ⟨⟨q.1.1, q.2⟩, q.1.2⟩⟩
      · rw [lookup_setS_ne hy] at l'
        obtain ⟨p, q, us, lst, r⟩ := i₀.owns y b es l'
        exact ⟨ho y _ hy p, q.1, us, lst' lst, r.extBut m.ext nf fun b q _ => up b q⟩
    · rcases owned_setS_sub h with h | h
      · exact (i₁.there b h).imp fun _ => lst'
      · rw [List.mem_singleton.mp h]; exact ⟨_, lst' l⟩

/-- x = [..], x from now on the frame's own to fill -/
theorem Ex1.assignF {x : Str} {e : Expr} {p pos : Pos} {ds : List D} (h : EvF G n env σ e ds) (hx : Storable env x) (hs : swapsWith e (some (.Name x p)) pos.line env = pure false := by rfl) :
    Ex1 G n env σ (.Assign [.Name x p] e pos) fun fl σ' => fl = .next ∧ ∃ a, σ' = setS x (.own a ds) σ := fun ok A s E r k i =>
  wpAny_Assign_Name (wpAny_mono (h ok A s E r k i) (fun v s₁ p₁ => by
    obtain ⟨st, a, vs, rfl, f, l, rs⟩ := p₁
    refine wpAny_store (base := G.base) (i.ext st.ext).frame hx fun s₂ hv ho F m => ?_
    obtain ⟨i', m', k', o'⟩ := After.own k i st f l rs hv ho F m
    exact ⟨.next, _, ⟨rfl, a, rfl⟩, trivial, i', m', k', fun b w => (o' b w).imp id fun w => by rw [w]; exact f⟩) fun _ _ x => x) hs

theorem Ex1.ret {e : Expr} {pos : Pos} {d : D} {Q : Fl → St → Prop} (h : EvB G n env σ e d) (q : Q (.ret d) σ) : Ex1 G n env σ (.Return (some e) pos) Q := fun ok A s E r k i =>
  wpAny_Return_some (wpAny_mono (h ok A s E r k i) (fun v s₁ p₁ => ⟨.ret d, σ, q, p₁.2, i.ext p₁.1.ext, p₁.1.mv, p₁.1.ext.base k, fun _ w => .inl w⟩) fun _ _ x => x)
theorem Ex1.pass {pos : Pos} {Q : Fl → St → Prop} (q : Q .next σ) : Ex1 G n env σ (.Pass pos) Q := fun ok A s E r k i =>
  wpAny_Pass ⟨.next, σ, q, trivial, i, Stp.refl.mv, k, fun _ w => .inl w⟩
theorem Ex1.ite {t : Expr} {a b : List Stmt} {pos : Pos} {c : Bool} {Q : Fl → St → Prop} (h : Tr G n env σ t c) (ha : c = true → Ex G n env σ a Q) (hb : c = false → Ex G n env σ b Q) : Ex1 G n env σ (.If t a b pos) Q := fun ok A s E r k i =>
  wpAny_If (wpAny_mono (h ok A s E r k i) (fun c' s₁ p₁ => by
    obtain ⟨st, rfl⟩ := p₁
    have go : ∀ body, Ex G n env σ body Q → wpAny G.M A (execs body env) (After G env σ ok s Q) E s₁ := fun body hq =>
      wpAny_mono (hq ok A s₁ E r (st.ext.base k) (i.ext st.ext)) (fun _ _ a => a.trans st.mv (fun _ w => .inl w) fun b e => st.ext.none e) fun _ _ x => x
    cases c' with
    | true => exact go _ (ha rfl)
    | false => exact go _ (hb rfl)) fun _ _ x => x)

end
end Mine

end
section
open PySem PySem.W PyProof.Rows PySem.Calls
set_option maxRecDepth 100000
namespace Mine

section
variable {G : Gr} {n : Nat} {env : Env} {σ : St}

theorem owned_setS_same {x : Str} {a : Addr} {ds es : List D} (l : σ.lookup x = some (.own a ds)) : owned (setS x (.own a es) σ) = owned σ := by
  obtain ⟨l₁, l₂, l₃, h1, h2, h3⟩ := owned_setS x (.own a es) σ
  rw [h1, h2, h3 _ l]; rfl

/-- the frame's own list is filled on -/
theorem Inv.upd {base : Heap} {ok : Addr → Prop} {s : Shared} {h' : Heap} {x : Str} {a : Addr} {vs : List Value} {ds ds' : List D} (i : Inv base ok env σ s.heap) (l : σ.lookup x = some (.own a ds))
    (hs : Heap.SameBut a s.heap h') (hl : OwnL h' a vs) (rs : RepAll (okO ok σ) s.heap vs ds') : Inv base ok env (setS x (.own a ds') σ) h' ∧ ∀ tk, Mv base (Wr env σ) s { s with heap := h', toks := tk } := by
  have hm := owned_of_lookup l
  obtain ⟨us, hus⟩ := i.there a hm
  have nfa : ¬ FrW env a := node_not_frame i.frame (.list hus.list)
  have keep : ∀ b, b ≠ a → h'.get? b = s.heap.get? b := fun b hb => hs.2 b hb
  have X : ExtBut base (· = a) s.heap h' := fun b o w e => ⟨o, (keep b w).trans e, rfl, rfl, fun _ => rfl⟩
  have nf : ∀ b, okO ok σ b → IsNode s.heap b → ¬ (b = a) := fun b q _ e => q.2 (e ▸ hm)
  have eo := owned_setS_same (es := ds') l
  have hok : okO ok (setS x (.own a ds') σ) = okO ok σ := by funext b; unfold okO; rw [eo]
  have hh : ∀ y v, Holds env s.heap y v → Holds env h' y v := fun y v q => by
    rcases q with ⟨k, m, hn, r⟩ | ⟨k, c, hc, r⟩
    · exact .inl ⟨k, m, hn.sameBut hs fun e => nfa (.inl e.symm), r⟩
    · exact .inr ⟨k, c, hc, r.sameBut hs fun e => nfa (.inr ⟨y, e ▸ hc⟩)⟩
  have dom : ∀ b, h'.get? b = none → s.heap.get? b = none := fun b e => by
    by_cases hb : b = a
    · have := hl.some; rw [← hb, e] at this; cases this
    · rw [← keep b hb]; exact e
  refine ⟨⟨⟨i.frame.kind, ?_, fun y c q => ?_, i.frame.apart, i.frame.away, i.frame.glob, i.frame.blt⟩, fun b w => i.off b (w.imp id fun w => eo ▸ w), fun b e => i.fresh b (dom b e), fun y d q => ?_, fun y b es q => ?_, fun b w => ?_, eo ▸ i.once⟩, fun tk => ⟨fun b o w e => X b o (fun q => w (.inr (q ▸ hm))) e, dom, rfl, .refl⟩⟩
  · obtain ⟨m, hn⟩ := i.frame.ns
    exact ⟨m, hn.sameBut hs fun e => nfa (.inl e.symm)⟩
  · obtain ⟨v, hv⟩ := i.frame.cells y c q
    exact ⟨v, hv.sameBut hs fun e => nfa (.inr ⟨y, e ▸ q⟩)⟩
  · rw [hok]
    by_cases hy : y = x
    · subst hy; rw [lookup_setS_self] at q; cases q
    · rw [lookup_setS_ne hy] at q
      obtain ⟨u, p, r⟩ := i.vals y d q
      exact ⟨u, hh y u p, r.extBut X nf fun _ w _ => w⟩
  · rw [hok]
    by_cases hy : y = x
    · subst hy
      rw [lookup_setS_self] at q; cases q
      obtain ⟨p, o, _⟩ := i.owns y a ds l
      exact ⟨hh y _ p, o, vs, hl, rs.extBut X nf fun _ w _ => w⟩
    · rw [lookup_setS_ne hy] at q
      obtain ⟨p, o, ws, lw, rw'⟩ := i.owns y b es q
      have hne : b ≠ a := fun e => by
        subst e
        -- two names own the same list: not so
        have h1 : b ∉ owned (setS x (.val .none) σ) := notMem_setS_val i.once l
        exact h1 (owned_of_lookup (x := y) (ds := es) (by rw [lookup_setS_ne hy]; exact q))
      exact ⟨hh y _ p, o, ws, X.own hne lw, rw'.extBut X nf fun _ w _ => w⟩
  · rw [eo] at w
    by_cases hb : b = a
    · subst hb; exact ⟨vs, hl⟩
    · obtain ⟨ws, lw⟩ := i.there b w
      exact ⟨ws, X.own hb lw⟩

/-- x.append(e) -/
theorem Ex1.append {x : Str} {p1 p2 p3 pos : Pos} {e : Expr} {a : Addr} {ds : List D} {d : D} (l : σ.lookup x = some (.own a ds)) (h : Ev G n env σ e d) (hz : ds.length < sizeLine)
    (hd : (x == ("__debug__" : Str)) = false := by decide) (hc : (x == ("__classdict__" : Str)) = false := by decide)
    (hs : swapsWith (.Call (.Attribute (.Name x p1) "append" p2) [e] [] p3) none pos.line env = pure false := by rfl)
    (he1 : starEach [e] env = [(false, eval e env)] := by rfl)
    {pl : Sem Bool} (he : eval (.Call (.Attribute (.Name x p1) "append" p2) [e] [] p3) env = (do
      let ov ← eval (.Name x p1) env
      standAt p2.atName
      let (f, first) ← holding [ov] (getMethod ov "append" pl)
      callWith p3 f first (backTo p3 (starEach [e] env)) []) := by rfl) :
    Ex1 G n env σ (.Expr (.Call (.Attribute (.Name x p1) "append" p2) [e] [] p3) pos) fun fl σ' => fl = .next ∧ σ' = setS x (.own a (ds ++ [d])) σ := fun ok A s E r k i => by
  obtain ⟨q, o, vs, lv, rs⟩ := i.owns x a ds l
  refine wpAny_Expr (MethodCall_ (pl := pl) (wpAny_holds i.frame.kind q ?_ hd hc) he) (by unfold interactive; rw [i.frame.kind]; rfl) hs
  obtain ⟨m, hm⟩ := lv
  refine getMethod_list_append hm rfl rfl ?_
  refine callWith_callee (.builtin _) (by rw [he1]; rfl) (G := G) ?_ (by cases e <;> first | rfl | cases he1)
  refine PyProof.Rows.args_cons (wpAny_mono (h ok A s E r k i) (fun v s₁ p₁ => PyProof.Rows.args_nil ?_) fun _ _ x => x) he1
  have k₁ := p₁.1.ext.base k
  have i₁ := i.ext p₁.1.ext
  refine ⟨k₁, ?_⟩
  obtain ⟨m₁, hm₁⟩ := p₁.1.ext.own ⟨m, hm⟩
  refine append_at (hsz := by rw [List.size_toArray, rs.length]; omega) hm₁ fun h' hs' hl' => ?_
  have hl : OwnL h' a (vs ++ [v]) := ⟨m₁ + 1, by rw [hl']; simp⟩
  obtain ⟨i', m'⟩ := i₁.upd l hs' hl ((rs.stp p₁.1).append (.cons p₁.2 .nil))
  have mv := (p₁.1.mv (W := Wr env σ)).trans (m' s₁.toks) fun _ w => .inl w
  exact ⟨.next, _, ⟨rfl, rfl⟩, trivial, i', mv, mv.base k i.off, fun b w => .inl (owned_setS_same (es := ds ++ [d]) l ▸ w)⟩

theorem lookup_some_of_setS {x y : Str} {s t : Slot} (h : (setS x s σ).lookup y = some t) (n : y ≠ x) : σ.lookup y = some t := by rwa [lookup_setS_ne n] at h

/-- the own list is left as it is from here on: a value as any other -/
theorem Inv.freeze {base : Heap} {ok : Addr → Prop} {h : Heap} {x : Str} {a : Addr} {ds : List D} (i : Inv base ok env σ h) (l : σ.lookup x = some (.own a ds)) : Inv base ok env (setS x (.val (.list ds)) σ) h := by
  have up : ∀ b, okO ok σ b → okO ok (setS x (.val (.list ds)) σ) b := fun b q => ⟨q.1, fun z => q.2 (owned_setS_val z)⟩
  refine ⟨i.frame, fun b w => i.off b (w.imp id owned_setS_val), i.fresh, fun y d q => ?_, fun y b es q => ?_, fun b w => i.there b (owned_setS_val w), nodup_setS_val i.once⟩
  · by_cases hy : y = x
    · subst hy
      rw [lookup_setS_self] at q; cases q
      obtain ⟨p, o, vs, lv, rs⟩ := i.owns y a ds l
      exact ⟨_, p, .list ⟨o, notMem_setS_val i.once l⟩ lv.list (rs.weak up)⟩
    · obtain ⟨u, p, r⟩ := i.vals y d (lookup_some_of_setS q hy)
      exact ⟨u, p, r.weak up⟩
  · by_cases hy : y = x
    · subst hy; rw [lookup_setS_self] at q; cases q
    · obtain ⟨p, o, vs, lv, rs⟩ := i.owns y b es (lookup_some_of_setS q hy)
      exact ⟨p, o, vs, lv, rs.weak up⟩

theorem After.sub {ok : Addr → Prop} {s s' : Shared} {σ' : St} {Q : Fl → St → Prop} {f : Flow} (h : ∀ b ∈ owned σ', b ∈ owned σ) (a : After G env σ' ok s Q f s') : After G env σ ok s Q f s' := by
  obtain ⟨fl, σ₂, q, fi, i, m, k, o⟩ := a
  exact ⟨fl, σ₂, q, fi, i, m.weak fun b w => w.imp id (h b), k, fun b w => (o b w).imp (h b) id⟩
theorem Ex.freeze {x : Str} {a : Addr} {ds : List D} {body : List Stmt} {Q : Fl → St → Prop} (l : σ.lookup x = some (.own a ds)) (h : Ex G n env (setS x (.val (.list ds)) σ) body Q) : Ex G n env σ body Q := fun ok A s E r k i =>
  wpAny_mono (h ok A s E r k (i.freeze l)) (fun _ _ a => a.sub fun b w => owned_setS_val w) fun _ _ x => x

/-- forgetting -/
def Sub : St → St → Prop
  | [], _ => True
  | (x, s) :: r, σ => σ.lookup x = some s ∧ Sub r σ
theorem Sub.get {σ₀ : St} : ∀ {σ₁ : St}, Sub σ₀ σ₁ → ∀ {x : Str} {s : Slot}, σ₀.lookup x = some s → σ₁.lookup x = some s := by
  induction σ₀ with
  | nil => intro _ _ x s h; cases h
  | cons y r ih =>
    intro σ₁ hs x s h
    obtain ⟨y, t⟩ := y
    rw [List.lookup_cons] at h
    cases e : x == y with
    | true => rw [e] at h; cases h; rw [beq_iff_eq.mp e]; exact hs.1
    | false => rw [e] at h; exact ih hs.2 h
theorem Sub.owned {σ₀ σ₁ : St} (h : Sub σ₀ σ₁) : ∀ a ∈ owned σ₀, a ∈ owned σ₁ := by
  induction σ₀ with
  | nil => intro a w; cases w
  | cons y r ih =>
    obtain ⟨y, t⟩ := y
    intro a w
    rw [owned_cons] at w
    rcases List.mem_append.mp w with w | w
    · cases t with
      | val d => cases w
      | own b es => rw [List.mem_singleton.mp w]; exact owned_of_lookup h.1
    · exact ih h.2 a w
theorem Inv.sub {base : Heap} {ok : Addr → Prop} {h : Heap} {σ₀ : St} (i : Inv base ok env σ h) (hs : Sub σ₀ σ) (hn : (owned σ₀).Nodup) : Inv base ok env σ₀ h := by
  have up : ∀ b, okO ok σ b → okO ok σ₀ b := fun b q => ⟨q.1, fun z => q.2 (hs.owned b z)⟩
  exact ⟨i.frame, fun b w => i.off b (w.imp id (hs.owned b)), i.fresh, fun y d q => let ⟨u, p, r⟩ := i.vals y d (hs.get q); ⟨u, p, r.weak up⟩,
    fun y b es q => let ⟨p, o, vs, lv, rs⟩ := i.owns y b es (hs.get q); ⟨p, o, vs, lv, rs.weak up⟩, fun b w => i.there b (hs.owned b w), hn⟩
theorem Ex.sub {σ₀ : St} {body : List Stmt} {Q : Fl → St → Prop} (hs : Sub σ₀ σ) (h : Ex G n env σ₀ body Q) (hn : (owned σ₀).Nodup := by simp [owned]) : Ex G n env σ body Q := fun ok A s E r k i =>
  wpAny_mono (h ok A s E r k (i.sub hs hn)) (fun _ _ a => a.sub hs.owned) fun _ _ x => x
theorem Ex1.sub {σ₀ : St} {st : Stmt} {Q : Fl → St → Prop} (hs : Sub σ₀ σ) (h : Ex1 G n env σ₀ st Q) (hn : (owned σ₀).Nodup := by simp [owned]) : Ex1 G n env σ st Q := fun ok A s E r k i =>
  wpAny_mono (h ok A s E r k (i.sub hs hn)) (fun _ _ a => a.sub hs.owned) fun _ _ x => x

end
end Mine

end
section
open PySem PySem.W PyProof.Rows PySem.Calls
set_option maxRecDepth 100000
namespace Mine

section
variable {G : Gr} {n : Nat} {env : Env} {σ : St}

theorem Rep.mv {base : Heap} {ok ok' : Addr → Prop} {s s' : Shared} {v : Value} {d : D} (i : Inv base ok env σ s.heap) (m : Mv base (Wr env σ) s s') (r : Rep (okO ok σ) s.heap v d) (k : ∀ b, okO ok σ b → ok' b) : Rep ok' s'.heap v d :=
  r.extBut m.ext (fun a q w z => z.elim (node_not_frame i.frame w) q.2) fun b q _ => k b q
theorem RepAll.mv {base : Heap} {ok ok' : Addr → Prop} {s s' : Shared} {vs : List Value} {ds : List D} (i : Inv base ok env σ s.heap) (m : Mv base (Wr env σ) s s') (r : RepAll (okO ok σ) s.heap vs ds) (k : ∀ b, okO ok σ b → ok' b) : RepAll ok' s'.heap vs ds :=
  r.extBut m.ext (fun a q w z => z.elim (node_not_frame i.frame w) q.2) fun b q _ => k b q

/-- a target takes a value -/
def AssD (G : Gr) (n : Nat) (env : Env) (t : Expr) (d : D) (f : St → St) : Prop := ∀ σ ok A s E v, Room n A → G.base.StaysIn s.heap → Inv G.base ok env σ s.heap → Rep (okO ok σ) s.heap v d →
  wpAny G.M A (assign t env v) (fun _ s' => Inv G.base ok env (f σ) s'.heap ∧ Mv G.base (Wr env σ) s s' ∧ ∀ b ∈ owned (f σ), b ∈ owned σ) E s
theorem AssD.name {x : Str} {p : Pos} {d : D} (hx : Storable env x) : AssD G n env (.Name x p) d (setS x (.val d)) := fun σ ok A s E v r k i rp =>
  wpAny_assign_Name (wpAny_store (base := G.base) i.frame hx fun s' hv ho F m => ⟨i.set_val m F hv ho rp, m.weak fun _ w => .inl w, fun b w => owned_setS_val w⟩)
/-- a row of targets takes a row of values -/
def AssL (G : Gr) (n : Nat) (env : Env) (ts : List Expr) (ds : List D) (f : St → St) : Prop := ∀ σ ok A s E vs, Room n A → G.base.StaysIn s.heap → Inv G.base ok env σ s.heap → RepAll (okO ok σ) s.heap vs ds →
  wpAny G.M A (assignInOrder ((assignEach ts env).map (·.2)) vs) (fun _ s' => Inv G.base ok env (f σ) s'.heap ∧ Mv G.base (Wr env σ) s s' ∧ ∀ b ∈ owned (f σ), b ∈ owned σ) E s
theorem AssL.nil : AssL G n env [] [] id := fun σ ok A s E vs r k i rs => by
  cases rs
  exact wpAny_pure ⟨i, Stp.refl.mv, fun _ h => h⟩
theorem AssL.cons {t : Expr} {ts : List Expr} {d : D} {ds : List D} {f g : St → St} (h : AssD G n env t d f) (hs : AssL G n env ts ds g) (he : assignEach (t :: ts) env = (false, assign t env) :: assignEach ts env := by rfl) :
    AssL G n env (t :: ts) (d :: ds) (fun σ => g (f σ)) := fun σ ok A s E vs r k i rs => by
  cases rs with
  | cons a rest =>
    rw [he]
    refine wpAny_bind (wpAny_holding (wpAny_mono (h σ ok A s E _ r k i a) (fun _ s₁ p₁ => ?_) fun _ _ x => x))
    have up : ∀ b, okO ok σ b → okO ok (f σ) b := fun b q => ⟨q.1, fun z => q.2 (p₁.2.2 b z)⟩
    refine wpAny_mono (hs (f σ) ok A s₁ E _ r (p₁.2.1.base k i.off) p₁.1 (rest.mv i p₁.2.1 up)) (fun _ s₂ p₂ => ⟨p₂.1, p₁.2.1.trans p₂.2.1 fun b w => .inl (w.imp id (p₁.2.2 b)), fun b w => p₁.2.2 b (p₂.2.2 b w)⟩) fun _ _ x => x
theorem assignEach_length (ts : List Expr) : (assignEach ts env).length = ts.length := by
  induction ts with
  | nil => rfl
  | cons t r ih => cases t <;> simp [assignEach, ih]
theorem AssD.tuple {ts : List Expr} {k : Nat} {p : Pos} {ds : List D} {f : St → St} (h : AssL G n env ts ds f) (hn : ts.length = ds.length) (hstar : (assignEach ts env).findIdx? (·.1) = none := by rfl) : AssD G n env (.Tuple ts k p) (.tuple ds) f := fun σ ok A s E v r k i rp => by
  cases rp with
  | tuple o l rs =>
    refine assign_Tuple_tuple r.handled l (by rw [assignEach_length, hn, List.size_toArray, rs.length]) hstar fun h' he => ?_
    have st : Stp G.base s { s with heap := h' } := ⟨.of_stays fun b o e => he b o (Nat.ne_of_lt (Heap.lt_size e)) e, rfl, .refl⟩
    refine wpAny_mono (h σ ok A { s with heap := h' } E _ r (st.ext.base k) (i.ext st.ext) (rs.stp st)) (fun _ s₂ p₂ => ⟨p₂.1, (st.mv (W := Wr env σ)).trans p₂.2.1 fun _ w => .inl w, p₂.2.2⟩) fun _ _ x => x

/-- t = e, t a row of names -/
theorem Ex1.assignT {ts : List Expr} {k : Nat} {e : Expr} {p pos : Pos} {ds : List D} {f : St → St} (h : Ev G n env σ e (.tuple ds)) (ha : AssL G n env ts ds f) (hn : ts.length = ds.length := by rfl) (hstar : (assignEach ts env).findIdx? (·.1) = none := by rfl)
    (hs : swapsWithSole [.Tuple ts k p] e pos.line env = pure false := by rfl) (hw : swappedStores [.Tuple ts k p] e env = pure none := by rfl) :
    Ex1 G n env σ (.Assign [.Tuple ts k p] e pos) fun fl σ' => fl = .next ∧ σ' = f σ := fun ok A s E r k i =>
  Assign_Tuple (wpAny_mono (h ok A s E r k i) (fun v s₁ p₁ => wpAny_mono (AssD.tuple ha hn hstar σ ok A s₁ E v r (p₁.1.ext.base k) (i.ext p₁.1.ext) p₁.2) (fun _ s₂ p₂ =>
    have m := (p₁.1.mv (W := Wr env σ)).trans p₂.2.1 fun _ w => .inl w
    ⟨.next, _, ⟨rfl, rfl⟩, trivial, p₂.1, m, m.base k i.off, fun b w => .inl (p₂.2.2 b w)⟩) fun _ _ x => x) fun _ _ x => x) hs hw

/-- what an iterator does to the world: itself alone -/
structure MvI (base : Heap) (wr : Addr → Prop) (wg : Nat → Prop) (s s' : Shared) : Prop where
  ext : ExtBut base wr s.heap s'.heap
  dom : ∀ b, ¬ wr b → s'.heap.get? b = none → s.heap.get? b = none
  os : s'.os = s.os
  gkeep : ∀ (i : Nat) (x : GenState), ¬ wg i → s.gens[i]? = some x → s'.gens[i]? = some x
  gbare : (∀ x ∈ s.gens, x.bare = true) → ∀ x ∈ s'.gens, x.bare = true
theorem MvI.after {base : Heap} {W wr : Addr → Prop} {wg : Nat → Prop} {s s₁ s₂ : Shared} (m : Mv base W s s₁) (i : MvI base wr wg s₁ s₂) (h : ∀ a, wr a → s.heap.get? a = none) (hg : ∀ g, wg g → s.gens[g]? = none) : Mv base W s s₂ := by
  refine ⟨fun b o w e => ?_, fun b e => ?_, i.os.trans m.os, ⟨fun j x e => i.gkeep j x (fun z => by rw [hg j z] at e; cases e) (m.gens.keep j x e), fun q => i.gbare (m.gens.bare q)⟩⟩
  · obtain ⟨o', e', c', d', k'⟩ := m.ext b o w e
    obtain ⟨o'', e'', c'', d'', k''⟩ := i.ext b o' (fun z => by rw [h b z] at e; cases e) e'
    refine ⟨o'', e'', c''.trans c', d''.trans d', fun q => ?_⟩
    have := k' q; subst this
    exact k'' q
  · by_cases z : wr b
    · exact h b z
    · exact m.dom b (i.dom b z e)

/-- an iterator at work: the items that are to come -/
structure Itr (G : Gr) (A : Around) (ok : Addr → Prop) (target : Expr) (I : Addr) (ds : List D) (fp wr : Addr → Prop) (wg : Nat → Prop) (Sx : Nat → Shared → Prop) : Prop where
  frame : ∀ i s s' W, Sx i s → Mv G.base W s s' → (∀ a, fp a → ¬ W a) → (∀ a, ok a → IsNode s.heap a → ¬ W a) → Sx i s'
  node : ∀ i s a, Sx i s → wr a → ¬ IsNode s.heap a ∧ (s.heap.get? a).isSome = true
  item : ∀ i d s E ok', ds[i]? = some d → Sx i s → G.base.StaysIn s.heap → (∀ a, ok a → ok' a) → FreshOk ok' s.heap → wpAny G.M A (pyNext (.ref I)) (fun r s₁ => ∃ v, r = some v ∧
    wpAny G.M A (letOwnedTupleGo target (.ref I) v) (fun _ s' => Rep ok' s'.heap v d ∧ Sx (i + 1) s' ∧ MvI G.base wr wg s s') E s₁) E s
  done : ∀ s E, Sx ds.length s → G.base.StaysIn s.heap → wpAny G.M A (pyNext (.ref I)) (fun r s' => r = none ∧ MvI G.base wr wg s s') E s
  self : ∀ i s (Q : Value → Shared → Prop) E, Sx i s → Q (.ref I) s → wpAny G.M A (pyIter (.ref I)) Q E s

/-- the head of a for: the expression gives an iterator over ds -/
def EvI (G : Gr) (n : Nat) (env : Env) (σ : St) (e target : Expr) (ds : List D) : Prop := ∀ ok A s E, Room n A → G.base.StaysIn s.heap → Inv G.base ok env σ s.heap →
  wpAny G.M A (eval e env) (fun x s₁ => wpAny G.M A (pyIter x) (fun it s' => Stp G.base s s' ∧ ∃ I fp wr wg Sx, it = .ref I ∧
    Itr G A (fun a => okO ok σ a ∧ (s'.heap.get? a).isSome = true) target I ds fp wr wg Sx ∧ Sx 0 s' ∧ (∀ a, fp a → (s'.heap.get? a).isSome = true ∧ ¬ Wr env σ a) ∧ (∀ a, wr a → s.heap.get? a = none ∧ fp a) ∧ ∀ g, wg g → s.gens[g]? = none) E s₁) E s

/-- an iterator's steps leave the frame's state -/
theorem Inv.mvI {base : Heap} {ok : Addr → Prop} {wr : Addr → Prop} {wg : Nat → Prop} {s s' : Shared} (i : Inv base ok env σ s.heap) (m : MvI base wr wg s s') (hf : ∀ a, wr a → ¬ Wr env σ a) (hn : ∀ a, wr a → ¬ IsNode s.heap a)
    (hd : ∀ b, wr b → ok b) : Inv base ok env σ s'.heap := by
  have nf : ∀ {P : Addr → Prop} a, P a → IsNode s.heap a → ¬ wr a := fun a _ q z => hn a z q
  have hh : ∀ y v, Holds env s.heap y v → Holds env s'.heap y v := fun y v q => by
    rcases q with ⟨k, mm, hns, r⟩ | ⟨k, c, hc, r⟩
    · obtain ⟨o, es, ep, e, d, rr⟩ := hns
      obtain ⟨o', e', _, d', _⟩ := m.ext _ o (fun z => hf _ z (.inl (.inl rfl))) e
      exact .inl ⟨k, mm, ⟨o', es, ep, e', d'.trans d, rr⟩, r⟩
    · obtain ⟨o, e, d⟩ := r
      obtain ⟨o', e', _, d', _⟩ := m.ext _ o (fun z => hf _ z (.inl (.inr ⟨y, hc⟩))) e
      exact .inr ⟨k, c, hc, o', e', d'.trans d⟩
  refine ⟨⟨i.frame.kind, ?_, fun y c q => ?_, i.frame.apart, i.frame.away, i.frame.glob, i.frame.blt⟩, i.off, fun b e => ?_, fun y d q => ?_, fun y b es q => ?_, fun b w => ?_, i.once⟩
  · obtain ⟨mm, o, es, ep, e, d, rr⟩ := i.frame.ns
    obtain ⟨o', e', _, d', _⟩ := m.ext _ o (fun z => hf _ z (.inl (.inl rfl))) e
    exact ⟨mm, o', es, ep, e', d'.trans d, rr⟩
  · obtain ⟨v, o, e, d⟩ := i.frame.cells y c q
    obtain ⟨o', e', _, d', _⟩ := m.ext _ o (fun z => hf _ z (.inl (.inr ⟨y, q⟩))) e
    exact ⟨v, o', e', d'.trans d⟩
  · by_cases z : wr b
    · exact hd b z
    · exact i.fresh b (m.dom b z e)
  · obtain ⟨u, p, r⟩ := i.vals y d q
    exact ⟨u, hh y u p, r.extBut m.ext nf fun _ w _ => w⟩
  · obtain ⟨p, o, vs, lv, rs⟩ := i.owns y b es q
    exact ⟨hh y _ p, o, vs, m.ext.own (fun z => hn b z (.list lv.list)) lv, rs.extBut m.ext nf fun _ w _ => w⟩
  · obtain ⟨vs, lv⟩ := i.there b w
    exact ⟨vs, m.ext.own (fun z => hn b z (.list lv.list)) lv⟩

theorem Ex1.for {target iter : Expr} {body : List Stmt} {pos : Pos} {ds : List D} {f : D → St → St} {Q : Fl → St → Prop} (hi : EvI G n env σ iter target ds) (ht : ∀ d ∈ ds, AssD G n env target d (f d)) (J : Nat → St → Prop) (h0 : J 0 σ)
    (turn : ∀ i d σ₁, ds[i]? = some d → J i σ₁ → Ex G n env (f d σ₁) body fun fl σ₂ => match fl with
      | .next | .cont => J (i + 1) σ₂
      | .brk => Q .next σ₂
      | .ret r => Q (.ret r) σ₂)
    (done : ∀ σ₁, J ds.length σ₁ → Q .next σ₁) (hs : ∀ x, foldedSetIterable iter env x = pure x := by intro _; rfl) : Ex1 G n env σ (.For target iter body [] pos) Q := fun ok A s E r k i => by
  refine wpAny_For (wpAny_mono (hi ok A s E r k i) (fun x s₁ p₁ => wpAny_mono p₁ (fun it s₂ p₂ => ?_) fun _ _ x => x) fun _ _ x => x) hs
  obtain ⟨st, I, fp, wr, wg, Sx, rfl, W, hst, hfp, hwr, hwg⟩ := p₂
  have i₂ := i.ext st.ext
  refine codeAny_forLoop_any (fun m s' => ∃ j σ₁, j ≤ ds.length ∧ m = ds.length + 1 - j ∧ J j σ₁ ∧ Sx j s' ∧ Inv G.base ok env σ₁ s'.heap ∧ Mv G.base (Wr env σ) s s' ∧ G.base.StaysIn s'.heap ∧
    (∀ a ∈ owned σ₁, a ∈ owned σ ∨ s₂.heap.get? a = none) ∧ ∀ b, ¬ wr b → s'.heap.get? b = none → s₂.heap.get? b = none) ?_ (ds.length + 1) ⟨0, σ, Nat.zero_le _, by omega, h0, hst, i₂, st.mv, st.ext.base k, fun a w => .inl w, fun _ _ e => e⟩
  rintro m s' ⟨j, σ₁, hj, rfl, hJ, hSx, hinv, hmv, hk, how, hdom⟩
  have hfpw : ∀ a, fp a → ¬ Wr env σ₁ a := fun a q w => by
    rcases w with w | w
    · exact (hfp a q).2 (.inl w)
    · rcases how a w with w | w
      · exact (hfp a q).2 (.inr w)
      · have := (hfp a q).1; rw [w] at this; cases this
  have hwr2 : ∀ a, wr a → ¬ Wr env σ₁ a := fun a q => hfpw a (hwr a q).2
  have hok1 : ∀ a, (okO ok σ a ∧ (s₂.heap.get? a).isSome = true) → okO ok σ₁ a := fun a q => ⟨q.1.1, fun w => (how a w).elim q.1.2 fun z => by rw [z] at q; cases q.2⟩
  by_cases hlt : j < ds.length
  · have hd : ds[j]? = some ds[j] := List.getElem?_eq_getElem hlt
    refine wpAny_mono (W.item j ds[j] s' _ (okO ok σ₁) hd hSx hk hok1 hinv.freshO) (fun r' s₃ q => ?_) fun _ _ x => x
    obtain ⟨v, rfl, q⟩ := q
    refine wpAny_mono q (fun _ s₄ q => ?_) fun _ _ x => x
    obtain ⟨rp, hSx', mi⟩ := q
    have inv₄ := hinv.mvI mi hwr2 (fun a w => (W.node j s' a hSx w).1) fun b w => i.fresh b (hwr b w).1
    have mv₄ := MvI.after hmv mi (fun a w => (hwr a w).1) hwg
    have hk₄ := mv₄.base k i.off
    refine wpAny_mono (ht ds[j] (List.getElem_mem hlt) σ₁ ok A s₄ _ v r hk₄ inv₄ rp) (fun _ s₅ q => ?_) fun _ _ x => x
    obtain ⟨inv₅, mv₅, ow₅⟩ := q
    have mv₅' : Mv G.base (Wr env σ) s s₅ := mv₄.trans mv₅ fun a w => by
      rcases w with w | w
      · exact .inl (.inl w)
      · exact (how a w).imp .inr fun z => st.ext.none z
    have hk₅ := mv₅'.base k i.off
    have hSx₅ : Sx (j + 1) s₅ := W.frame (j + 1) s₄ s₅ _ hSx' mv₅ (fun a q => hfpw a q) fun a q nd w => by
      rcases w with w | w
      · exact node_not_frame inv₄.frame nd w
      · exact (hok1 a q).2 w
    refine wpAny_mono (turn j ds[j] σ₁ hd hJ ok A s₅ _ r hk₅ inv₅) (fun fl s₆ q => ?_) fun _ _ x => x
    obtain ⟨fl', σ₂, q, fi, inv₆, mv₆, hk₆, ow₆⟩ := q
    have mv₆' : Mv G.base (Wr env σ) s s₆ := mv₅'.trans mv₆ fun a w => by
      rcases w with w | w
      · exact .inl (.inl w)
      · exact (how a (ow₅ a w)).imp .inr fun z => st.ext.none z
    have dom₅ : ∀ b, ¬ wr b → s₅.heap.get? b = none → s₂.heap.get? b = none := fun b nz e => hdom b nz (mi.dom b nz (mv₅.dom b e))
    have how₆ : ∀ a ∈ owned σ₂, a ∈ owned σ ∨ s₂.heap.get? a = none := fun a w => by
      rcases ow₆ a w with w | w
      · exact how a (ow₅ a w)
      · exact .inr (dom₅ a (fun z => by have := (W.node _ _ a hSx₅ z).2; rw [w] at this; cases this) w)
    have how₆' : ∀ a ∈ owned σ₂, a ∈ owned σ ∨ s.heap.get? a = none := fun a w => (how₆ a w).imp id fun z => st.ext.none z
    have go : J (j + 1) σ₂ → ∃ m, m < ds.length + 1 - j ∧ ∃ j' σ₁, j' ≤ ds.length ∧ m = ds.length + 1 - j' ∧ J j' σ₁ ∧ Sx j' s₆ ∧ Inv G.base ok env σ₁ s₆.heap ∧ Mv G.base (Wr env σ) s s₆ ∧ G.base.StaysIn s₆.heap ∧
        (∀ a ∈ owned σ₁, a ∈ owned σ ∨ s₂.heap.get? a = none) ∧ ∀ b, ¬ wr b → s₆.heap.get? b = none → s₂.heap.get? b = none := fun hq =>
      ⟨ds.length + 1 - (j + 1), by omega, j + 1, σ₂, hlt, rfl, hq, W.frame (j + 1) s₅ s₆ _ hSx₅ mv₆ (fun a q w => by
          rcases w with w | w
          · exact (hfp a q).2 (.inl w)
          · exact hfpw a q (.inr (ow₅ a w))) (fun a q nd w => by
          rcases w with w | w
          · exact node_not_frame inv₅.frame nd w
          · exact (hok1 a q).2 (ow₅ a w)), inv₆, mv₆', hk₆, how₆, fun b nz e => dom₅ b nz (mv₆.dom b e)⟩
    cases fl <;> cases fl' <;> first | exact fi.elim | skip
    · exact go q
    · exact ⟨.next, σ₂, q, trivial, inv₆, mv₆', hk₆, how₆'⟩
    · exact go q
    · exact ⟨.ret _, σ₂, q, fi, inv₆, mv₆', hk₆, how₆'⟩
  · have hjl : j = ds.length := by omega
    subst hjl
    refine wpAny_mono (W.done s' _ hSx hk) (fun r' s₃ q => ?_) fun _ _ x => x
    obtain ⟨rfl, mi⟩ := q
    have inv₃ := hinv.mvI mi hwr2 (fun a w => (W.node _ s' a hSx w).1) fun b w => i.fresh b (hwr b w).1
    have mv₃ := MvI.after hmv mi (fun a w => (hwr a w).1) hwg
    exact wpAny_execs_nil ⟨.next, σ₁, done σ₁ hJ, trivial, inv₃, mv₃, mv₃.base k i.off, fun a w => (how a w).imp id fun z => st.ext.none z⟩
end
end Mine

end
section
open PySem PySem.W PyProof.Rows PySem.Calls
set_option maxRecDepth 100000
namespace Mine

section
variable {G : Gr} {n : Nat} {env : Env} {σ : St}

def plainIter (T : String) : Bool := !(["enumerate", "zip", "dict_itemiterator", "dict_reverseitemiterator", "odict_iterator", "itertools.zip_longest", "itertools.pairwise", "list", "tuple", "slice", "range"] : List String).contains T

theorem letOwned_plain {M : Model} {A : Around} {E : Value → Shared → Prop} {s : Shared} {target : Expr} {I : Addr} {v : Value} {o : Obj} {T : String} {Q : Unit → Shared → Prop} (ho : s.heap.get? I = some o) (hc : o.cls = .type T) (hT : plainIter T = true)
    (h : Q () s) : wpAny M A (letOwnedTupleGo target (.ref I) v) Q E s := by
  have hT' : (["enumerate", "zip", "dict_itemiterator", "dict_reverseitemiterator", "odict_iterator", "itertools.zip_longest", "itertools.pairwise"] : List String).contains T = false := by
    unfold plainIter at hT
    simp only [List.contains_cons, List.contains_nil, Bool.or_false, Bool.not_eq_true', Bool.or_eq_false_iff] at hT ⊢
    exact ⟨hT.1, hT.2.1, hT.2.2.1, hT.2.2.2.1, hT.2.2.2.2.1, hT.2.2.2.2.2.1, hT.2.2.2.2.2.2.1⟩
  have go : wpAny M A (match (Value.ref I, v) with
      | (.ref r, .ref a) => (do
        let o ← load r
        match o.cls, o.data with
        | .type n, .fields vs =>
          if ["enumerate", "zip", "dict_itemiterator", "dict_reverseitemiterator", "odict_iterator", "itertools.zip_longest", "itertools.pairwise"].contains n && vs[0]? == some (rawInt a) then
            rule "for.unpacks-the-owned-tuple"
            updateField r 0 .none
        | _, _ => pure () : Sem Unit)
      | _ => pure ()) Q E s := by
    cases v <;> first | exact wpAny_pure h | skip
    refine wpAny_bind (wpAny_load ho ?_)
    rw [hc]
    cases o.data <;> first | exact wpAny_pure h | skip
    simp only [hT', Bool.false_and, Bool.false_eq_true, if_false]
    exact wpAny_pure h
  cases target <;> first | exact wpAny_pure h | exact go

theorem MvI.of_keep {base : Heap} {I : Addr} {s : Shared} {h' : Heap} {tk : Nat} (h : ∀ b o, b ∉ [I] → s.heap.get? b = some o → h'.get? b = some o) : MvI base (· = I) (fun _ => False) s { s with heap := h', toks := tk } :=
  ⟨fun b o w e => ⟨o, h b o (by simpa using w) e, rfl, rfl, fun _ => rfl⟩, fun b w e => (by
    cases q : s.heap.get? b with
    | none => rfl
    | some o => (have := h b o (by simpa using w) q; rw [show h'.get? b = none from e] at this; cases this)), rfl, fun _ _ _ e => e, fun q => q⟩

theorem Itr.of_walks {A : Around} {ok : Addr → Prop} {target : Expr} {I : Addr} {ds ds' : List D} {vs : List Value} {fpl : List Addr} {m : Nat} {P : Nat → Value → Prop} {Stt : Nat → Heap → Prop} (W : Walks G.prog G.w A I fpl [I] m P Stt) (hm : m = ds.length)
    (hfp : ∀ b ∈ fpl, b = I ∨ (ok b ∧ ∀ i h, Stt i h → IsNode h b)) (hobj : ∀ i h, Stt i h → ∃ o T, h.get? I = some o ∧ o.cls = .type T ∧ isDict o.data = false ∧ plainIter T = true)
    (hP : ∀ i v d h, ds[i]? = some d → P i v → RepAll ok h vs ds' → Rep ok h v d) :
    Itr G A ok target I ds (· = I) (· = I) (fun _ => False) (fun i s => Stt i s.heap ∧ RepAll ok s.heap vs ds') where
  frame := fun i s s' W' hs mv hf hn => by
    refine ⟨W.frame i s.heap s'.heap hs.1 fun b hb o e => ?_, hs.2.extBut mv.ext hn fun _ q _ => q⟩
    rcases hfp b hb with rfl | ⟨q1, q2⟩
    · obtain ⟨o₁, T, e₁, _, d₁, _⟩ := hobj i _ hs.1
      rw [e] at e₁; cases e₁
      obtain ⟨o', e', _, _, k'⟩ := mv.ext b o (hf b rfl) e
      rw [e', k' (.inr d₁)]
    · have nd := q2 i _ hs.1
      obtain ⟨o', e', _, _, k'⟩ := mv.ext b o (hn b q1 nd) e
      rw [e', k' (.inr ?_)]
      cases nd with
      | list l => obtain ⟨o₂, e₂, _, k, d⟩ := l; rw [e] at e₂; cases e₂; rw [d]; rfl
      | tup l => obtain ⟨o₂, e₂, _, k, d⟩ := l; rw [e] at e₂; cases e₂; rw [d]; rfl
      | slice e₂ _ d => rw [e] at e₂; cases e₂; rw [d]; rfl
      | rng e₂ => unfold IsRange at e₂; rw [e] at e₂; cases e₂; rfl
  node := fun i s a hs ha => by
    subst ha
    obtain ⟨o, T, e, c, _, hT⟩ := hobj i _ hs.1
    refine ⟨fun nd => ?_, by rw [e]; rfl⟩
    cases nd with
    | list l => obtain ⟨o₂, e₂, c₂, _⟩ := l; rw [e] at e₂; cases e₂; rw [c] at c₂; cases c₂; cases hT
    | tup l => obtain ⟨o₂, e₂, c₂, _⟩ := l; rw [e] at e₂; cases e₂; rw [c] at c₂; cases c₂; cases hT
    | slice e₂ c₂ _ => rw [e] at e₂; cases e₂; rw [c] at c₂; cases c₂; cases hT
    | rng e₂ => unfold IsRange at e₂; rw [e] at e₂; cases e₂; cases c; cases hT
  item := fun i d s E ok' hd hs k hok hfr => by
    have hlt : i < m := by rw [hm]; exact (List.getElem?_eq_some_iff.mp hd).1
    refine W.item i s _ E hlt hs.1 fun v h' tk hp hst hk => ?_
    have mi : MvI G.base (· = I) (fun _ => False) s { s with heap := h', toks := tk } := .of_keep hk
    have rs : RepAll ok h' vs ds' := hs.2.extBut mi.ext (fun a q nd z => by
      obtain ⟨o, T, e, c, _, hT⟩ := hobj i _ hs.1
      subst z
      cases nd with
      | list l => obtain ⟨o₂, e₂, c₂, _⟩ := l; rw [e] at e₂; cases e₂; rw [c] at c₂; cases c₂; cases hT
      | tup l => obtain ⟨o₂, e₂, c₂, _⟩ := l; rw [e] at e₂; cases e₂; rw [c] at c₂; cases c₂; cases hT
      | slice e₂ c₂ _ => rw [e] at e₂; cases e₂; rw [c] at c₂; cases c₂; cases hT
      | rng e₂ => unfold IsRange at e₂; rw [e] at e₂; cases e₂; cases c; cases hT) fun _ q _ => q
    obtain ⟨o, T, e, c, _, hT⟩ := hobj _ _ hst
    exact ⟨v, rfl, letOwned_plain e c hT ⟨(hP i v d h' hd hp rs).weak hok, ⟨hst, rs⟩, mi⟩⟩
  done := fun s E hs k => W.done s _ E (hm ▸ hs.1) fun h' tk hk => ⟨rfl, .of_keep hk⟩
  self := fun i s Q E hs hq => W.self i s Q E hs.1 hq

/-- a value that may stand in a for's head -/
def IterD (G : Gr) (n : Nat) (d : D) (ds : List D) : Prop := ∀ ok A s E v target, Room n A → G.base.StaysIn s.heap → FreshOk ok s.heap → Rep ok s.heap v d →
  wpAny G.M A (pyIter v) (fun it s' => Stp G.base s s' ∧ ∃ I Sx, it = .ref I ∧ s.heap.get? I = none ∧ (s'.heap.get? I).isSome = true ∧
    Itr G A (fun a => ok a ∧ (s'.heap.get? a).isSome = true) target I ds (· = I) (· = I) (fun _ => False) Sx ∧ Sx 0 s') E s

theorem EvI.of_ev {e target : Expr} {d : D} {ds : List D} (h : Ev G n env σ e d) (hd : IterD G n d ds) : EvI G n env σ e target ds := fun ok A s E r k i =>
  wpAny_mono (h ok A s E r k i) (fun v s₁ p₁ => wpAny_mono (hd _ A s₁ E v target r (p₁.1.ext.base k) (i.ext p₁.1.ext).freshO p₁.2) (fun it s₂ p₂ => by
    obtain ⟨st, I, Sx, rfl, hI, hI', W, hs⟩ := p₂
    have h0 : s.heap.get? I = none := p₁.1.ext.none hI
    refine ⟨p₁.1.trans st, I, _, _, _, Sx, rfl, W, hs, fun a ha => ?_, fun a ha => ?_, fun g hg => hg.elim⟩
    · subst ha
      refine ⟨hI', ?_⟩
      rintro ((w | ⟨x, w⟩) | w)
      · obtain ⟨m, o, _, _, q, _⟩ := i.frame.ns; rw [← w, h0] at q; cases q
      · obtain ⟨_, o, q, _⟩ := i.frame.cells x a w; rw [h0] at q; cases q
      · obtain ⟨vs, l⟩ := i.there a w; have := l.some; rw [h0] at this; cases this
    · subst ha; exact ⟨h0, rfl⟩) fun _ _ x => x) fun _ _ x => x

theorem rep_alloc {ok : Addr → Prop} {h : Heap} {v : Value} {d : D} (r : Rep ok h v d) : Rep (fun a => ok a ∧ (h.get? a).isSome = true) h v d := r.ext (base := h) .refl fun a q z => ⟨q, z⟩
theorem repAll_alloc {ok : Addr → Prop} {h : Heap} {vs : List Value} {ds : List D} (r : RepAll ok h vs ds) : RepAll (fun a => ok a ∧ (h.get? a).isSome = true) h vs ds := r.ext (base := h) .refl fun a q z => ⟨q, z⟩

theorem IterD.list {ds : List D} : IterD G n (.list ds) ds := fun ok A s E v target r k fr rp => by
  cases rp with
  | @list a vs _ o l rs =>
    have hne : a ≠ s.heap.objs.size := by obtain ⟨_, e, _⟩ := l; exact Nat.ne_of_lt (Heap.lt_size e)
    refine wpAny_pyIter_list l ?_
    have st : Stp G.base s { s with heap := s.heap.push { cls := .type "list_iterator", data := .fields #[.ref a, .int 0 0] } } := .push
    refine ⟨st, s.heap.objs.size, _, rfl, fresh_get, by rw [Heap.get?_push_size _ rfl]; rfl, Itr.of_walks (vs := vs) (ds' := ds) (Walks.list r.handled s.heap.objs.size a hne vs.toArray) (by rw [List.size_toArray, rs.length]) ?_ ?_ ?_,
      ⟨⟨_, Heap.get?_push_size _ rfl, rfl, rfl⟩, st.ext.list l⟩, ?_⟩
    · intro b hb
      rcases List.mem_cons.mp hb with rfl | hb
      · exact .inl rfl
      · rw [List.mem_singleton.mp hb]
        exact .inr ⟨⟨o, by obtain ⟨_, e, _⟩ := st.ext.list l; rw [e]; rfl⟩, fun i h q => .list q.2⟩
    · rintro i h ⟨⟨o', e, c, d⟩, _⟩
      exact ⟨o', _, e, c, by rw [d]; rfl, by decide⟩
    · intro i v d h hd hp rs'
      obtain ⟨u, e, rp⟩ := rs'.get hd
      have : vs[i]? = some v := by simpa using hp
      rw [this] at e; cases e; exact rp
    · exact repAll_alloc (rs.stp st)
theorem IterD.tuple {ds : List D} : IterD G n (.tuple ds) ds := fun ok A s E v target r k fr rp => by
  cases rp with
  | @tuple a vs _ o l rs =>
    have hne : a ≠ s.heap.objs.size := by obtain ⟨_, e, _⟩ := l; exact Nat.ne_of_lt (Heap.lt_size e)
    refine iter_tuple l ?_
    have st : Stp G.base s { s with heap := s.heap.push { cls := .type "tuple_iterator", data := .fields #[.ref a, .int 0 0] } } := .push
    refine ⟨st, s.heap.objs.size, _, rfl, fresh_get, by rw [Heap.get?_push_size _ rfl]; rfl, Itr.of_walks (vs := vs) (ds' := ds) (Walks.tuple r.handled s.heap.objs.size a hne vs.toArray) (by rw [List.size_toArray, rs.length]) ?_ ?_ ?_,
      ⟨⟨_, Heap.get?_push_size _ rfl, rfl, rfl⟩, st.ext.tup l⟩, ?_⟩
    · intro b hb
      rcases List.mem_cons.mp hb with rfl | hb
      · exact .inl rfl
      · rw [List.mem_singleton.mp hb]
        exact .inr ⟨⟨o, by obtain ⟨_, e, _⟩ := st.ext.tup l; rw [e]; rfl⟩, fun i h q => .tup q.2⟩
    · rintro i h ⟨⟨o', e, c, d⟩, _⟩
      exact ⟨o', _, e, c, by rw [d]; rfl, by decide⟩
    · intro i v d h hd hp rs'
      obtain ⟨u, e, rp⟩ := rs'.get hd
      have : vs[i]? = some v := by simpa using hp
      rw [this] at e; cases e; exact rp
    · exact repAll_alloc (rs.stp st)

/-- a text's signs -/
def signs (x : Str) : List D := x.cps.toList.map fun c => .str ⟨#[c]⟩
theorem IterD.str {x : Str} : IterD G n (.str x) (signs x) := fun ok A s E v target r k fr rp => by
  cases rp with
  | str _ t =>
    cases ha : x.cps.all (· < 128)
    · refine wpAny_pyIter_wide ha ?_
      refine ⟨.push, s.heap.objs.size, _, rfl, fresh_get, by rw [Heap.get?_push_size _ rfl]; rfl, Itr.of_walks (vs := []) (ds' := []) (Walks.strWide r.handled s.heap.objs.size x t) (by simp [signs]) (fun b hb => .inl (List.mem_singleton.mp hb)) ?_ ?_,
        ⟨⟨_, Heap.get?_push_size _ rfl, rfl, rfl⟩, .nil⟩⟩
      · rintro i h ⟨o', e, c, d⟩
        exact ⟨o', _, e, c, by rw [d]; rfl, by decide⟩
      · rintro i v d h hd ⟨c, u, hc, rfl⟩ _
        simp [signs] at hd
        obtain ⟨c', e, rfl⟩ := hd
        rw [hc] at e; cases e; exact .str _ _
    · refine wpAny_pyIter_ascii ha ?_
      refine ⟨.push, s.heap.objs.size, _, rfl, fresh_get, by rw [Heap.get?_push_size _ rfl]; rfl, Itr.of_walks (vs := []) (ds' := []) (Walks.strAscii r.handled s.heap.objs.size x t) (by simp [signs]) (fun b hb => .inl (List.mem_singleton.mp hb)) ?_ ?_,
        ⟨⟨_, Heap.get?_push_size _ rfl, rfl, rfl⟩, .nil⟩⟩
      · rintro i h ⟨o', e, c, d⟩
        exact ⟨o', _, e, c, by rw [d]; rfl, by decide⟩
      · rintro i v d h hd ⟨c, u, hc, rfl⟩ _
        simp [signs] at hd
        obtain ⟨c', e, rfl⟩ := hd
        rw [hc] at e; cases e; exact .str _ _

end
end Mine

end
section
open PySem PySem.W PyProof.Rows PySem.Calls
set_option maxRecDepth 100000
namespace Mine

/-- a def of the program by its place -/
def defAt (p : Program) (i : Nat) : DefRec := match p.main.body.drop i with
  | .FunctionDef name params body _ _ _ scope _ _ pos :: _ => ⟨name, params, body, scope, pos⟩
  | _ => ⟨⟨#[]⟩, ⟨[], [], none, [], [], none, []⟩, [], { kind := .function, names := [], isGenerator := false, isCoroutine := false, more := [] }, ⟨0, 0, 0, 0⟩⟩

/-- the frame of a def -/
structure FEnv (env : Env) (sc : Scope) : Prop where
  scope : env.scope = sc
  cells : ∀ x, sc.names.lookup x = some .cell → (env.cells.lookup x).isSome = true

section
variable {G : Gr} {n : Nat} {env : Env} {σ : St} {sc : Scope}
theorem FEnv.kind (F : FEnv env sc) {x : Str} {k : NameKind} (h : sc.names.lookup x = some k) : env.kindOf x = some k := by unfold Env.kindOf; rw [F.scope]; exact h
theorem FEnv.loc (F : FEnv env sc) {x : Str} (h : sc.names.lookup x = some .local) : Storable env x := .inl (F.kind h)
theorem FEnv.cel (F : FEnv env sc) {x : Str} (h : sc.names.lookup x = some .cell) : Storable env x := .inr ⟨F.kind h, F.cells x h⟩

/-- the def stands in the ground -/
structure FnAt (G : Gr) (d : DefRec) (a : Addr) : Prop where
  name : G.mg d.name = some (.ref a)
  obj : ∃ o pm code doc, G.base.get? a = some o ∧ o.data = .func (docDef d.name d.params d.body d.scope pm code doc) ∧ G.base.CodeRec code d.name

theorem bindL_other (kd : Str → Option NameKind) {x : Str} : ∀ (bs : List (Str × Value)) (m : Str → Option Value), (∀ p ∈ bs, p.1 ≠ x) → bindL kd bs m x = m x
  | [], m, _ => rfl
  | (y, v) :: r, m, h => by
    unfold bindL
    rw [bindL_other kd r _ fun p hp => h p (.tail _ hp)]
    have : x ≠ y := fun e => h (y, v) (.head _) e.symm
    split <;> simp [this]
theorem bindC_other (kd : Str → Option NameKind) {x : Str} : ∀ (bs : List (Str × Value)) (m : Str → Option Value), (∀ p ∈ bs, p.1 ≠ x) → bindC kd bs m x = m x
  | [], m, _ => rfl
  | (y, v) :: r, m, h => by
    unfold bindC
    rw [bindC_other kd r _ fun p hp => h p (.tail _ hp)]
    have : x ≠ y := fun e => h (y, v) (.head _) e.symm
    split <;> simp [this]
theorem bindL_get (kd : Str → Option NameKind) {x : Str} {v : Value} (hk : kd x = some .local) : ∀ (bs : List (Str × Value)) (m : Str → Option Value), (bs.map (·.1)).Nodup → (x, v) ∈ bs → bindL kd bs m x = some v
  | (y, u) :: r, m, nd, h => by
    unfold bindL
    rw [List.map_cons, List.nodup_cons] at nd
    rcases List.mem_cons.mp h with e | h
    · cases e
      rw [bindL_other kd r _ fun p hp e => nd.1 (List.mem_map.mpr ⟨p, hp, e⟩), if_pos hk]; simp
    · exact bindL_get kd hk r _ nd.2 h
theorem bindC_get (kd : Str → Option NameKind) {x : Str} {v : Value} (hk : kd x = some .cell) : ∀ (bs : List (Str × Value)) (m : Str → Option Value), (bs.map (·.1)).Nodup → (x, v) ∈ bs → bindC kd bs m x = some v
  | (y, u) :: r, m, nd, h => by
    unfold bindC
    rw [List.map_cons, List.nodup_cons] at nd
    rcases List.mem_cons.mp h with e | h
    · cases e
      rw [bindC_other kd r _ fun p hp e => nd.1 (List.mem_map.mpr ⟨p, hp, e⟩), if_neg (by rw [hk]; decide)]; simp
    · exact bindC_get kd hk r _ nd.2 h

theorem repAll_zip {ok : Addr → Prop} {h : Heap} {x : Str} {d : D} : ∀ {xs : List Str} {vs : List Value} {ds : List D}, RepAll ok h vs ds → (xs.zip (ds.map Slot.val)).lookup x = some (.val d) → ∃ v, (x, v) ∈ xs.zip vs ∧ Rep ok h v d
  | [], _, _, _, q => by cases q
  | y :: ys, _, _, .nil, q => by cases q
  | y :: ys, _, _, .cons (v := v) a r, q => by
    rw [List.map_cons, List.zip_cons_cons, List.lookup_cons] at q
    cases e : x == y with
    | true => rw [e] at q; cases q; rw [beq_iff_eq.mp e]; exact ⟨v, List.mem_cons_self, a⟩
    | false =>
      rw [e] at q
      obtain ⟨u, m, rp⟩ := repAll_zip r q
      exact ⟨u, List.mem_cons_of_mem _ m, rp⟩
theorem owned_zip : ∀ (xs : List Str) (ds : List D), owned (xs.zip (ds.map Slot.val)) = []
  | [], _ => rfl
  | _ :: _, [] => rfl
  | x :: xs, d :: ds => by rw [List.map_cons, List.zip_cons_cons, owned_cons]; exact owned_zip xs ds
theorem lookup_zip_own {x : Str} {a : Addr} {es : List D} : ∀ (xs : List Str) (ds : List D), (xs.zip (ds.map Slot.val)).lookup x ≠ some (.own a es)
  | [], _ => nofun
  | _ :: _, [] => nofun
  | y :: ys, d :: ds => by
    rw [List.map_cons, List.zip_cons_cons, List.lookup_cons]
    cases x == y with
    | true => exact nofun
    | false => exact lookup_zip_own ys ds

/-- what a call of a def gives, by its body -/
theorem CallD.def {d : DefRec} {a : Addr} {ds : List D} {r : D} (F : FnAt G d a) (hds : d.params.args.length = ds.length)
    (hbind : ∀ pm code doc vs, vs.length = ds.length → bindArgs (docDef d.name d.params d.body d.scope pm code doc) ⟨vs, []⟩ = pure ((d.params.args.map (·.arg)).zip vs))
    (hkind : (d.params.args.all fun y => d.scope.names.lookup y.arg == some .local || d.scope.names.lookup y.arg == some .cell) = true) (hnd : (d.params.args.map (·.arg)).Nodup)
    (h : ∀ env, FEnv env d.scope → Ex G n env ((d.params.args.map (·.arg)).zip (ds.map Slot.val)) d.body fun fl _ => fl = .ret r)
    (hco : d.scope.isCoroutine = false) (hgen : d.scope.isGenerator = false) (hk : d.scope.kind = .function) : CallD G (n + 1) (.ref a) ds r := fun ok A s E vs rm k fr rs => by
  obtain ⟨o, pm, code, doc, ho, hd, hcd⟩ := F.obj
  refine wpAny_call (codeAny_call_cells (fd := docDef d.name d.params d.body d.scope pm code doc) (body := d.body) (vals := vs) (binds := (d.params.args.map (·.arg)).zip vs) (by have := rm.depth; omega) (k _ _ ho) hd (G.nolimit.keeps k) (hcd.keeps k) rfl (hbind _ _ _ _ rs.length) rfl ?_ (fun s₁ x => ?_) hco hgen hk)
  · intro p hp
    have hm : p.1 ∈ d.params.args.map (·.arg) := (List.of_mem_zip hp).1
    obtain ⟨y, hy, e⟩ := List.mem_map.mp hm
    have := List.all_eq_true.mp hkind y hy
    rw [e] at this
    exact kindsX (scope := d.scope) (binds := [(p.1, p.2)]) (by simpa using this) _ (p.1, p.2) (by simp)
  · generalize henv : callEnvC (docDef d.name d.params d.body d.scope pm code doc) s.heap.objs.size a = env at x ⊢
    have hsc : env.scope = d.scope := by rw [← henv]; rfl
    have hcs : env.cells = cellsFrom (s.heap.objs.size + 1) d.scope.names [] := by rw [← henv]; rfl
    have FE : FEnv env d.scope := ⟨hsc, fun y hy => by rw [hcs]; exact cellsFrom_some _ _ _ (.inl hy)⟩
    have hnoL : ∀ b, s.heap.objs.size ≤ b → s.heap.get? b = none := fun b hb => by
      cases q : s.heap.get? b with
      | none => rfl
      | some o => exact absurd (Nat.lt_of_lt_of_le (Heap.lt_size q) hb) (Nat.lt_irrefl _)
    have hfw : ∀ b, FrW env b → s.heap.get? b = none := fun b w => by
      rcases w with w | ⟨y, w⟩
      · exact hnoL b (w ▸ x.toInCall.fresh)
      · exact hnoL b (Nat.le_of_lt (Nat.lt_of_le_of_lt x.toInCall.fresh (x.above y b (mem_of_lookup w))))
    have hvl : ((d.params.args.map (·.arg)).zip vs).map (·.1) = d.params.args.map (·.arg) := by
      rw [List.map_fst_zip]; rw [List.length_map, hds, rs.length]; exact Nat.le_refl _
    have hnd' : (((d.params.args.map (·.arg)).zip vs).map (·.1)).Nodup := by rw [hvl]; exact hnd
    have st : Stp G.base s s₁ := by
      obtain ⟨h', tk, rfl, hkp⟩ := x.done
      exact .heap hkp
    have inv : Inv G.base ok env ((d.params.args.map (·.arg)).zip (ds.map Slot.val)) s₁.heap := by
      refine ⟨⟨by rw [hsc]; exact hk, ⟨_, x.toInCall.ns⟩, fun y c l => ⟨_, x.cell y c l⟩, x.apart, fun y c l => Nat.ne_of_gt (x.above y c (mem_of_lookup l)), by rw [← henv]; rfl, by rw [← henv]; rfl⟩,
        fun b w => ?_, fr.stp st.ext, fun y e l => ?_, fun y b es l => absurd l (lookup_zip_own _ _), fun b w => ?_, ?_⟩
      · rw [Wr, owned_zip] at w
        have := hfw b (w.elim id fun z => nomatch z)
        cases q : G.base.get? b with
        | none => rfl
        | some o => rw [k b o q] at this; cases this
      · obtain ⟨v, hm, rp⟩ := repAll_zip rs l
        refine ⟨v, ?_, (rp.stp st).weak fun b q => ⟨q, by rw [owned_zip]; simp⟩⟩
        have hy : y ∈ d.params.args.map (·.arg) := (List.of_mem_zip hm).1
        obtain ⟨z, hz, e⟩ := List.mem_map.mp hy
        have hkd := List.all_eq_true.mp hkind z hz
        rw [e] at hkd
        rcases Bool.or_eq_true_iff.mp hkd with q | q
        · have q' : env.kindOf y = some .local := FE.kind (by simpa using q)
          exact .inl ⟨q', _, x.toInCall.ns, bindL_get _ q' _ _ hnd' hm⟩
        · have q0 : d.scope.names.lookup y = some .cell := by simpa using q
          have q' : env.kindOf y = some .cell := FE.kind q0
          obtain ⟨c, hc⟩ := Option.isSome_iff_exists.mp (FE.cells y q0)
          refine .inr ⟨.inl q', c, hc, ?_⟩
          have := x.cell y c hc
          rw [bindC_get _ q' _ _ hnd' hm] at this
          exact this
      · rw [owned_zip] at w; cases w
      · rw [owned_zip]; exact List.nodup_nil
    refine wpAny_mono (h env FE ok _ s₁ (fun _ _ => False) rm.deeper (st.ext.base k) inv) (fun f s₂ q => ?_) fun _ _ x => x.elim
    obtain ⟨fl, σ', rfl, fi, _, mv, _, _⟩ := q
    cases f with
    | ret v =>
      refine ⟨?_, fi⟩
      have m2 : Mv G.base (FrW env) s s₂ := ((st.mv (W := FrW env))).trans mv fun b w => by rw [Wr, owned_zip] at w; exact .inl (w.elim id fun z => nomatch z)
      exact m2.stp hfw
    | _ => exact fi.elim
end
end Mine

end
section
open PySem PySem.W PyProof.Rows PySem.Calls
set_option maxRecDepth 100000
namespace Mine

section
variable {G : Gr} {n : Nat} {env : Env} {σ : St}

/-! numbers -/
theorem BinD.add {x y : Int} : BinD G n .Add (.int x) (.int y) (.int (x + y)) := fun ok A s E va vb r k f ra rb => by
  cases ra; cases rb; exact P.add_int ⟨.tok, .int _ _⟩
theorem BinD.sub {x y : Int} : BinD G n .Sub (.int x) (.int y) (.int (x - y)) := fun ok A s E va vb r k f ra rb => by
  cases ra; cases rb; exact P.sub_int ⟨.tok, .int _ _⟩
theorem BinD.mul {x y : Int} (h : IntMulOk x y) : BinD G n .Mult (.int x) (.int y) (.int (x * y)) := fun ok A s E va vb r k f ra rb => by
  cases ra; cases rb; exact P.mul_int ⟨.tok, .int _ _⟩ h
theorem mulOk_left {x y : Int} (h1 : -(2 ^ 64) < x) (h2 : x < 2 ^ 64) : IntMulOk x y := .of_left (intBits_le_64 h1 h2)
theorem mulOk_right {x y : Int} (h1 : -(2 ^ 64) < y) (h2 : y < 2 ^ 64) : IntMulOk x y := .of_right (intBits_le_64 h1 h2)
theorem BinD.mod {x y : Int} (h : y ≠ 0) : BinD G n .Mod (.int x) (.int y) (.int (x.fmod y)) := fun ok A s E va vb r k f ra rb => by
  cases ra; cases rb; exact mod_int' h ⟨.tok, .int _ _⟩
theorem BinD.fdiv {x y : Int} (h : y ≠ 0) (hs : y.natAbs < 1073741824) : BinD G n .FloorDiv (.int x) (.int y) (.int (x.fdiv y)) := fun ok A s E va vb r k f ra rb => by
  cases ra; cases rb; exact floordiv_int h ⟨.tok, .int _ _⟩ (.inl (PyProof.noPylong_small hs))
theorem CmpD.eq_int {x y : Int} : CmpD G n .Eq (.int x) (.int y) (x == y) := fun ok A s E va vb r k f ra rb => by
  cases ra; cases rb; exact P.eq_int ⟨.refl, rfl⟩
theorem CmpD.ne_int {x y : Int} : CmpD G n .NotEq (.int x) (.int y) (x != y) := fun ok A s E va vb r k f ra rb => by
  cases ra; cases rb; exact P.ne_int ⟨.refl, rfl⟩
theorem CmpD.lt_int {x y : Int} : CmpD G n .Lt (.int x) (.int y) (decide (x < y)) := fun ok A s E va vb r k f ra rb => by
  cases ra; cases rb; exact P.lt_int ⟨.refl, rfl⟩
theorem CmpD.le_int {x y : Int} : CmpD G n .LtE (.int x) (.int y) (decide (x ≤ y)) := fun ok A s E va vb r k f ra rb => by
  cases ra; cases rb; exact P.le_int ⟨.refl, rfl⟩
theorem CmpD.gt_int {x y : Int} : CmpD G n .Gt (.int x) (.int y) (decide (x > y)) := fun ok A s E va vb r k f ra rb => by
  cases ra; cases rb; exact P.gt_int ⟨.refl, rfl⟩
theorem CmpD.ge_int {x y : Int} : CmpD G n .GtE (.int x) (.int y) (decide (x ≥ y)) := fun ok A s E va vb r k f ra rb => by
  cases ra; cases rb; exact P.ge_int ⟨.refl, rfl⟩
theorem TruD.int {x : Int} : TruD G n (.int x) (x != 0) := fun ok A s E v r k f rv => by
  cases rv; exact P.truthy_int ⟨.refl, rfl⟩
theorem TruD.bool {b : Bool} : TruD G n (.bool b) b := fun ok A s E v r k f rv => by
  cases rv; exact wpAny_truthy_bool ⟨.refl, rfl⟩
theorem TruD.none : TruD G n .none false := fun ok A s E v r k f rv => by
  cases rv; exact truthy_none ⟨.refl, rfl⟩
theorem Ev.neg {e : Expr} {p : Pos} {x : Int} (h : Ev G n env σ e (.int x)) : Ev G n env σ (.UnaryOp .USub e p) (.int (-x)) := fun ok A s E r k i =>
  UnaryOp_ (wpAny_mono (h ok A s E r k i) (fun v s₁ p₁ => by
    obtain ⟨st, rp⟩ := p₁; cases rp
    exact P.neg_int ⟨st.trans .tok, .int _ _⟩) fun _ _ x => x)

/-! texts -/
theorem cps_eq_iff {x y : Str} : (x.cps.toList == y.cps.toList) = decide (x = y) := by
  obtain ⟨⟨x⟩⟩ := x; obtain ⟨⟨y⟩⟩ := y
  by_cases h : x = y
  · subst h; simp
  · have : ¬ ((⟨⟨x⟩⟩ : Str) = ⟨⟨y⟩⟩) := fun e => h (by injection e with e; injection e)
    simp [h]
theorem CmpD.eq_str {x y : Str} : CmpD G n .Eq (.str x) (.str y) (decide (x = y)) := fun ok A s E va vb r k f ra rb => by
  cases ra; cases rb; exact P.eq_str (by rw [cps_eq_iff]; exact ⟨.refl, rfl⟩)
theorem CmpD.ne_str {x y : Str} : CmpD G n .NotEq (.str x) (.str y) (!decide (x = y)) := fun ok A s E va vb r k f ra rb => by
  cases ra; cases rb; exact P.ne_str (by rw [bne, cps_eq_iff]; exact ⟨.refl, rfl⟩)
theorem BinD.add_str {x y : Str} (h : x.length + y.length ≤ sizeLine) : BinD G n .Add (.str x) (.str y) (.str (x ++ y)) := fun ok A s E va vb r k f ra rb => by
  cases ra; cases rb
  refine P.add_str ?_
  have hl : ∀ z : Str, (z.length == 0) = true → z = Str.empty := fun z hz => by
    obtain ⟨⟨l⟩⟩ := z
    cases l with
    | nil => rfl
    | cons a b => cases hz
  split
  · rename_i h0
    rw [hl x h0]
    exact ⟨.refl, by rw [show Str.empty ++ y = y from by obtain ⟨⟨l⟩⟩ := y; exact congrArg Str.mk (by simp [Str.empty])]; exact .str _ _⟩
  · split
    · rename_i h0
      rw [hl y h0]
      exact ⟨.refl, by rw [show x ++ Str.empty = x from by obtain ⟨⟨l⟩⟩ := x; exact congrArg Str.mk (by simp [Str.empty])]; exact .str _ _⟩
    · exact ⟨by rw [show (x ++ y).length = x.length + y.length from Array.size_append ..]; exact h, .tok, .str _ _⟩
theorem CallD.chr {i : Int} (h0 : 0 ≤ i) (h1 : i ≤ 1114111) : CallD G n (.builtin "chr") [.int i] (.str ⟨#[i.toNat]⟩) := fun ok A s E vs r k f rs => by
  cases rs with
  | cons a t => cases t; cases a; exact chr_of_range h0 h1 ⟨.tok, .str _ _⟩
theorem CallD.len_str {x : Str} (h : x.length < 2 ^ 62) : CallD G n (.builtin "len") [.str x] (.int x.length) := fun ok A s E vs r k f rs => by
  cases rs with
  | cons a t => cases t; cases a; exact P.len_str (by omega) ⟨.tok, .int _ _⟩
theorem CallD.len_list {ds : List D} (h : ds.length < 2 ^ 62) : CallD G n (.builtin "len") [.list ds] (.int ds.length) := fun ok A s E vs r k f rs => by
  cases rs with
  | cons a t =>
    cases t
    cases a with
    | list o l rs => exact PyProof.Rows.len_list l (by rw [List.size_toArray, rs.length]; omega) ⟨.tok, by rw [List.size_toArray, rs.length]; exact .int _ _⟩
theorem CallD.len_tuple {ds : List D} (h : ds.length < 2 ^ 62) : CallD G n (.builtin "len") [.tuple ds] (.int ds.length) := fun ok A s E vs r k f rs => by
  cases rs with
  | cons a t =>
    cases t
    cases a with
    | tuple o l rs => exact PyProof.Rows.len_tuple l (by rw [List.size_toArray, rs.length]; omega) ⟨.tok, by rw [List.size_toArray, rs.length]; exact .int _ _⟩

/-! items -/
theorem IdxD.list {ds : List D} {i : Int} {d : D} (h0 : 0 ≤ i) (h1 : i < 2 ^ 62) (h : ds[i.toNat]? = some d) : IdxD G n (.list ds) (.int i) d := fun ok A s E vo vi r k f ro ri => by
  cases ri
  cases ro with
  | list o l rs =>
    obtain ⟨v, hv, rv⟩ := rs.get h
    exact wpAny_getItem_list l h0 (by omega) (by simpa using hv) ⟨.refl, rv⟩
theorem IdxD.list_neg {ds : List D} {i : Int} {d : D} (h0 : i < 0) (h1 : -(ds.length : Int) ≤ i) (h2 : -(2 ^ 62) ≤ i) (h : ds[(i + ds.length).toNat]? = some d) : IdxD G n (.list ds) (.int i) d := fun ok A s E vo vi r k f ro ri => by
  cases ri
  cases ro with
  | list o l rs =>
    obtain ⟨v, hv, rv⟩ := rs.get h
    exact wpAny_getItem_list_neg l h0 (by rw [List.size_toArray, rs.length]; exact h1) (by omega) (by rw [List.size_toArray, rs.length]; simpa using hv) ⟨.refl, rv⟩
theorem typeIs_list {ok : Addr → Prop} {s : Shared} {v : Value} {ds : List D} (r : Rep ok s.heap v (.list ds)) : s.TypeIs v "list" := by
  cases r with
  | list o l rs => exact l.typeIs
theorem typeIs_tuple {ok : Addr → Prop} {s : Shared} {v : Value} {ds : List D} (r : Rep ok s.heap v (.tuple ds)) : s.TypeIs v "tuple" := by
  cases r with
  | tuple o l rs => exact l.typeIs
theorem typeIs_str' {ok : Addr → Prop} {s : Shared} {v : Value} {x : Str} (r : Rep ok s.heap v (.str x)) : s.TypeIs v "str" := by
  cases r; exact typeIs_str _ _ _
theorem Ev.item {o i : Expr} {p : Pos} {ds : List D} {di d : D} (ho : Ev G n env σ o (.list ds)) (hi : Ev G n env σ i di) (hx : IdxD G n (.list ds) di d)
    (hs : ∀ a b, ∃ ops, subscripted i false a b = operate ops (getItem a b) := by intro a b; first | exact ⟨[a, b], rfl⟩ | exact ⟨[b, a], rfl⟩) : Ev G n env σ (.Subscript o i p) d :=
  .sub ho hi hx (fun _ _ _ r => typeIs_list r) slot_list_getitem.lookup hs
theorem Ev.itemT {o i : Expr} {p : Pos} {ds : List D} {di d : D} (ho : Ev G n env σ o (.tuple ds)) (hi : Ev G n env σ i di) (hx : IdxD G n (.tuple ds) di d)
    (hs : ∀ a b, ∃ ops, subscripted i false a b = operate ops (getItem a b) := by intro a b; first | exact ⟨[a, b], rfl⟩ | exact ⟨[b, a], rfl⟩) : Ev G n env σ (.Subscript o i p) d :=
  .sub ho hi hx (fun _ _ _ r => typeIs_tuple r) slot_tuple_getitem.lookup hs
theorem Ev.itemS {o i : Expr} {p : Pos} {x : Str} {di d : D} (ho : Ev G n env σ o (.str x)) (hi : Ev G n env σ i di) (hx : IdxD G n (.str x) di d)
    (hs : ∀ a b, ∃ ops, subscripted i false a b = operate ops (getItem a b) := by intro a b; first | exact ⟨[a, b], rfl⟩ | exact ⟨[b, a], rfl⟩) : Ev G n env σ (.Subscript o i p) d :=
  .sub ho hi hx (fun _ _ _ r => typeIs_str' r) F.slot_str_getitem.lookup hs

end
end Mine

end
section
open PySem PySem.W PyProof.Rows PySem.Calls
set_option maxRecDepth 100000
namespace Mine

/-! equality all the way down -/
mutual
def D.py : D → PyData
  | .none => .none
  | .bool b => .bool b
  | .int i => .int i
  | .str x => .str x
  | .tuple ds => .tuple (D.pys ds)
  | .list ds => .list (D.pys ds)
  | _ => .dict []
def D.pys : List D → List PyData
  | [] => []
  | d :: ds => D.py d :: D.pys ds
end
mutual
/-- none, ints, texts, and rows of such, to a depth -/
def D.data : Nat → D → Bool
  | _, .none => true
  | _, .bool _ => true
  | _, .int _ => true
  | _, .str x => PyData.strOk x
  | n + 1, .tuple ds => D.datas n ds
  | n + 1, .list ds => D.datas n ds
  | _, _ => false
def D.datas : Nat → List D → Bool
  | _, [] => true
  | n, d :: ds => D.data n d && D.datas n ds
end
mutual
theorem rep_reads {ok : Addr → Prop} {h : Heap} : ∀ {v : Value} {d : D} (n : Nat), Rep ok h v d → D.data n d = true → ∃ as, Reads h v d.py as
  | _, _, _, .none, _ => ⟨_, Reads.none⟩
  | _, _, _, .bool b, _ => ⟨_, Reads.bool b⟩
  | _, _, _, .int i t, _ => ⟨_, Reads.int i t⟩
  | _, _, _, .str x t, _ => ⟨_, Reads.str x t⟩
  | _, _, n, .bytes _ _, hk => by cases n <;> simp [D.data] at hk
  | _, _, n, .raw _, hk => by cases n <;> simp [D.data] at hk
  | _, _, n, .slice _ _ _ _ _ _ _, hk => by cases n <;> simp [D.data] at hk
  | _, _, n, .rng _ _, hk => by cases n <;> simp [D.data] at hk
  | _, _, 0, .tuple _ _ _, hk => by simp [D.data] at hk
  | _, _, 0, .list _ _ _, hk => by simp [D.data] at hk
  | _, _, n + 1, .tuple _ l r, hk => by
    obtain ⟨as, q⟩ := repAll_reads n r (by simpa [D.data] using hk)
    obtain ⟨o, e, c, k, d⟩ := l
    rw [D.py]
    exact ⟨as, Reads.tuple e c d (by simpa using q)⟩
  | _, _, n + 1, .list _ l r, hk => by
    obtain ⟨as, q⟩ := repAll_reads n r (by simpa [D.data] using hk)
    obtain ⟨o, e, c, k, d⟩ := l
    rw [D.py]
    exact ⟨_, Reads.list e c d (by simpa using q)⟩
theorem repAll_reads {ok : Addr → Prop} {h : Heap} : ∀ {vs : List Value} {ds : List D} (n : Nat), RepAll ok h vs ds → D.datas n ds = true → ∃ as, ReadsAll h vs (D.pys ds) as
  | _, _, _, .nil, _ => ⟨_, ReadsAll.nil⟩
  | _, _, n, .cons a r, hk => by
    rw [D.datas, Bool.and_eq_true] at hk
    obtain ⟨as, q⟩ := rep_reads n a hk.1
    obtain ⟨bs, p⟩ := repAll_reads n r hk.2
    rw [D.pys]
    exact ⟨_, ReadsAll.cons q p⟩
end
mutual
theorem data_lay : ∀ (n : Nat) (d : D), D.data n d = true → d.py.canLay0 = true ∧ d.py.depth ≤ n
  | _, .none, _ => by simp [D.py, PyData.canLay0, PyData.depth]
  | _, .bool _, _ => by simp [D.py, PyData.canLay0, PyData.depth]
  | _, .int _, _ => by simp [D.py, PyData.canLay0, PyData.depth]
  | n, .str x, h => by
    have : PyData.strOk x = true := by cases n <;> simpa [D.data] using h
    simp [D.py, PyData.canLay0, PyData.depth, this]
  | n, .bytes _, h => by cases n <;> simp [D.data] at h
  | n, .raw _, h => by cases n <;> simp [D.data] at h
  | n, .slice _ _ _, h => by cases n <;> simp [D.data] at h
  | n, .rng _ _, h => by cases n <;> simp [D.data] at h
  | 0, .tuple _, h => by simp [D.data] at h
  | 0, .list _, h => by simp [D.data] at h
  | n + 1, .tuple ds, h => by
    have q := datas_lay n ds (by simpa [D.data] using h)
    simp only [D.py, PyData.canLay0, PyData.depth, q.1, true_and]
    have := q.2; omega
  | n + 1, .list ds, h => by
    have q := datas_lay n ds (by simpa [D.data] using h)
    simp only [D.py, PyData.canLay0, PyData.depth, q.1, true_and]
    have := q.2; omega
theorem datas_lay : ∀ (n : Nat) (ds : List D), D.datas n ds = true → PyData.canLayAll0 (D.pys ds) = true ∧ PyData.depthAll (D.pys ds) ≤ n
  | _, [], _ => by simp [D.pys, PyData.canLayAll0, PyData.depthAll]
  | n, d :: ds, h => by
    rw [D.datas, Bool.and_eq_true] at h
    have q := data_lay n d h.1
    have p := datas_lay n ds h.2
    simp only [D.pys, PyData.canLayAll0, PyData.depthAll, q.1, p.1, Bool.and_self, true_and]
    have := q.2; have := p.2; omega
end
/-- Python's == -/
def D.eqb (d e : D) : Bool := PyData.eqv d.py e.py

mutual
/-- no bool in it: then == is equality -/
def D.noBool : D → Bool
  | .bool _ => false
  | .tuple ds => D.noBools ds
  | .list ds => D.noBools ds
  | .none | .int _ | .str _ => true
  | _ => false
def D.noBools : List D → Bool
  | [] => true
  | d :: ds => D.noBool d && D.noBools ds
end
theorem str_beq (x y : Str) : (x == y) = decide (x = y) := rfl
mutual
theorem eqb_iff : ∀ (d e : D), d.noBool = true → e.noBool = true → (PyData.eqv d.py e.py = true ↔ d = e)
  | .none, e, _, h => by cases e <;> simp_all [D.noBool, D.py, PyData.eqv]
  | .int i, e, _, h => by cases e <;> simp_all [D.noBool, D.py, PyData.eqv]
  | .str x, e, _, h => by cases e <;> simp_all [D.noBool, D.py, PyData.eqv]
  | .bool _, _, h, _ => by simp [D.noBool] at h
  | .bytes _, _, h, _ => by simp [D.noBool] at h
  | .raw _, _, h, _ => by simp [D.noBool] at h
  | .slice _ _ _, _, h, _ => by simp [D.noBool] at h
  | .rng _ _, _, h, _ => by simp [D.noBool] at h
  | .tuple ds, e, h, h' => by
    cases e with
    | tuple es =>
      simp only [D.py, PyData.eqv, D.tuple.injEq]
      exact eqbs_iff ds es (by simpa [D.noBool] using h) (by simpa [D.noBool] using h')
    | _ => simp_all [D.noBool, D.py, PyData.eqv]
  | .list ds, e, h, h' => by
    cases e with
    | list es =>
      simp only [D.py, PyData.eqv, D.list.injEq]
      exact eqbs_iff ds es (by simpa [D.noBool] using h) (by simpa [D.noBool] using h')
    | _ => simp_all [D.noBool, D.py, PyData.eqv]
theorem eqbs_iff : ∀ (ds es : List D), D.noBools ds = true → D.noBools es = true → (PyData.eqvAll (D.pys ds) (D.pys es) = true ↔ ds = es)
  | [], es, _, _ => by cases es <;> simp [D.pys, PyData.eqvAll]
  | d :: ds, [], _, _ => by simp [D.pys, PyData.eqvAll]
  | d :: ds, e :: es, h, h' => by
    rw [D.noBools, Bool.and_eq_true] at h h'
    have q := eqb_iff d e h.1 h'.1
    have p := eqbs_iff ds es h.2 h'.2
    simp only [D.pys, PyData.eqvAll, Bool.and_eq_true, q, p, List.cons.injEq]
end
theorem eqb_refl {d : D} {n : Nat} (h : d.data n = true) : d.eqb d = true := SeqAt.eqv_refl d.py (data_lay n d h).1
theorem eqb_ne {d e : D} (h : d.noBool = true) (h' : e.noBool = true) (q : d ≠ e) : d.eqb e = false := by
  cases hb : d.eqb e with
  | false => rfl
  | true => exact absurd ((eqb_iff d e h h').mp hb) q

section
variable {G : Gr} {n : Nat} {env : Env} {σ : St}
theorem CmpD.eq {d e : D} {k : Nat} (hd : d.data k = true) (he : e.data k = true) (hk : k ≤ 400) : CmpD G n .Eq d e (d.eqb e) := fun ok A s E va vb r kb f ra rb => by
  obtain ⟨as, qa⟩ := rep_reads k ra hd
  obtain ⟨bs, qb⟩ := rep_reads k rb he
  have la := data_lay k d hd
  have lb := data_lay k e he
  exact SeqAt.compareEq_reads qa qb la.1 lb.1 (by have := r.units; have := la.2; have := lb.2; omega) ⟨.refl, rfl⟩
theorem CmpD.ne {d e : D} {k : Nat} (hd : d.data k = true) (he : e.data k = true) (hk : k ≤ 400) : CmpD G n .NotEq d e (!d.eqb e) := fun ok A s E va vb r kb f ra rb => by
  obtain ⟨as, qa⟩ := rep_reads k ra hd
  obtain ⟨bs, qb⟩ := rep_reads k rb he
  have la := data_lay k d hd
  have lb := data_lay k e he
  exact SeqAt.compareNe_reads qa qb la.1 lb.1 (by have := r.units; have := la.2; have := lb.2; omega) ⟨.refl, rfl⟩

/-! slices -/
def D.part : D → Option Int
  | .int i => some i
  | _ => Option.none
def D.isPart : D → Bool
  | .none | .int _ => true
  | _ => false
theorem rep_part {ok : Addr → Prop} {h : Heap} {v : Value} {d : D} (r : Rep ok h v d) (hp : d.isPart = true) : IsPart v d.part := by
  cases r <;> first | exact IsPart.none | exact IsPart.int _ _ | cases hp
/-- the items that a slice takes -/
def pickD {α : Type} (ds : List α) (lo hi st : Option Int) : List α :=
  (sliceRange (sliceBounds lo hi st ds.length).1 (sliceBounds lo hi st ds.length).2.1 (sliceBounds lo hi st ds.length).2.2).filterMap (ds[·]?)
theorem repAll_filterMap {ok : Addr → Prop} {h : Heap} {vs : List Value} {ds : List D} (r : RepAll ok h vs ds) : ∀ js : List Nat, RepAll ok h (js.filterMap (vs[·]?)) (js.filterMap (ds[·]?))
  | [] => .nil
  | j :: js => by
    have ih := repAll_filterMap r js
    rw [List.filterMap_cons, List.filterMap_cons]
    cases hj : ds[j]? with
    | none =>
      have : vs[j]? = none := by
        rw [List.getElem?_eq_none_iff] at hj ⊢; rw [r.length]; exact hj
      rw [this]; exact ih
    | some d =>
      obtain ⟨v, hv, rp⟩ := r.get hj
      rw [hv]; exact .cons rp ih
theorem pick_rep {ok : Addr → Prop} {h : Heap} {vs : List Value} {ds : List D} (r : RepAll ok h vs ds) (lo hi st : Option Int) : RepAll ok h (slicePick vs.toArray lo hi st).toList (pickD ds lo hi st) := by
  unfold slicePick pickD
  rw [List.size_toArray, r.length]
  simpa using repAll_filterMap r _
theorem IdxD.slice {ds : List D} {l u st : D} (hl : l.isPart = true) (hu : u.isPart = true) (hs : st.isPart = true) (h0 : st.part ≠ some 0) (hz : ds.length ≤ sizeLine) :
    IdxD G n (.list ds) (.slice l u st) (.list (pickD ds l.part u.part st.part)) := fun ok A s E vo vi r k f ro ri => by
  cases ri with
  | slice oi ei ci di r1 r2 r3 =>
    cases ro with
    | @list a ws _ o lst rs =>
      refine wpAny_getItem_list_slice lst ⟨_, ei, ci, di⟩ (rep_part r1 hl) (rep_part r2 hu) (rep_part r3 hs) h0 ?_ (by rw [List.size_toArray, rs.length]; exact hz)
      have sp : Stp G.base s { s with heap := s.heap.push { cls := .type "list", data := .seq (slicePick ws.toArray l.part u.part st.part) } } := .push
      exact ⟨sp, .list (f _ fresh_get) ⟨_, Heap.get?_push_size _ rfl, rfl, 0, by simp⟩ ((pick_rep rs _ _ _).stp sp)⟩

end
end Mine

end
section
open PySem PySem.W PyProof.Rows PySem.Calls
set_option maxRecDepth 100000
namespace Mine

section
variable {G : Gr} {n : Nat} {env : Env} {σ : St}

/-! text slices -/
def sliceStr (x : Str) (lo hi st : Option Int) : Str := ⟨(pickD x.cps.toList lo hi st).toArray⟩
theorem pickD_length_le {α : Type} (ds : List α) (lo hi st : Option Int) : (pickD ds lo hi st).length ≤ ds.length := by
  unfold pickD
  refine Nat.le_trans (List.length_filterMap_le _ _) (sliceRange_length_le _ _ _ _ (fun hc => ?_) fun hc => ?_)
  · simp only [sliceBounds] at hc ⊢
    simp only [hc, if_true]
    constructor
    · cases lo with
      | none => simp
      | some i => dsimp only; omega
    · cases hi with
      | none => simp
      | some i => dsimp only; omega
  · simp only [sliceBounds] at hc ⊢
    simp only [hc, if_false]
    constructor
    · cases lo with
      | none => simp
      | some i => dsimp only; omega
    · cases hi with
      | none => simp
      | some i => dsimp only; omega
theorem filterMap_run {α : Type} (l : List α) (a k : Nat) : ((List.range k).map (a + ·)).filterMap (l[·]?) = (l.drop a).take k := by
  induction k with
  | zero => simp
  | succ k ih =>
    rw [List.range_succ, List.map_append, List.filterMap_append, ih, List.take_add_one]
    congr 1
    simp only [List.map_cons, List.map_nil, List.filterMap_cons, List.filterMap_nil, List.getElem?_drop]
    cases l[a + k]? <;> rfl
theorem pickD_plain {α : Type} (ds : List α) (lo hi : Option Int) :
    pickD ds lo hi none = (ds.drop (lo.elim 0 (clipAt ds.length))).take (hi.elim ds.length (clipAt ds.length) - lo.elim 0 (clipAt ds.length)) := by
  unfold pickD
  rw [sliceBounds_plain]
  simp only [sliceRange_one, filterMap_run]
theorem pickD_from {α : Type} (ds : List α) (a : Nat) : pickD ds (some (a : Int)) none none = ds.drop a := by
  rw [pickD_plain]
  simp only [Option.elim, clipAt_nat]
  rcases Nat.le_total a ds.length with h | h
  · rw [Nat.min_eq_left h, List.take_of_length_le (by simp)]
  · rw [Nat.min_eq_right h, List.drop_of_length_le (Nat.le_refl _), List.drop_of_length_le h]; simp
theorem pickD_upto {α : Type} (ds : List α) (b : Nat) : pickD ds none (some (b : Int)) none = ds.take b := by
  rw [pickD_plain]
  simp only [Option.elim, clipAt_nat, List.drop_zero, Nat.sub_zero]
  rcases Nat.le_total b ds.length with h | h
  · rw [Nat.min_eq_left h]
  · rw [Nat.min_eq_right h, List.take_of_length_le (Nat.le_refl _), List.take_of_length_le h]
theorem pickD_run {α : Type} (ds : List α) (a b : Nat) : pickD ds (some (a : Int)) (some (b : Int)) none = (ds.drop a).take (b - a) := by
  rw [pickD_plain]
  simp only [Option.elim, clipAt_nat]
  rcases Nat.le_total a ds.length with h | h
  · rw [Nat.min_eq_left h]
    rcases Nat.le_total b ds.length with h2 | h2
    · rw [Nat.min_eq_left h2]
    · rw [Nat.min_eq_right h2, List.take_of_length_le (by simp), List.take_of_length_le (by simp; omega)]
  · rw [Nat.min_eq_right h, List.drop_of_length_le (Nat.le_refl _), List.drop_of_length_le h]; simp
theorem pickD_all {α : Type} (ds : List α) : pickD ds none none none = ds := by
  rw [pickD_plain]; simp
theorem mk_list (x : Str) : (⟨x.cps.toList.toArray⟩ : Str) = x := by obtain ⟨⟨l⟩⟩ := x; rfl

theorem IdxD.sliceS {x : Str} {l u st : D} (hl : l.isPart = true) (hu : u.isPart = true) (hs : st.isPart = true) (h0 : st.part ≠ some 0) (hz : x.length ≤ sizeLine) :
    IdxD G n (.str x) (.slice l u st) (.str (sliceStr x l.part u.part st.part)) := fun ok A s E vo vi r k f ro ri => by
  cases ri with
  | slice oi ei ci di r1 r2 r3 =>
    cases ro with
    | str _ t =>
      have conv : ∀ {v : Value} {d : D}, Rep ok s.heap v d → d.isPart = true → ∃ p : Option (Int × Tok), v = partValue p ∧ p.map (·.1) = d.part := fun {v d} r hp => by
        cases r <;> first | cases hp | skip
        · exact ⟨none, rfl, rfl⟩
        · exact ⟨some (_, _), rfl, rfl⟩
      obtain ⟨p1, e1, q1⟩ := conv r1 hl
      obtain ⟨p2, e2, q2⟩ := conv r2 hu
      obtain ⟨p3, e3, q3⟩ := conv r3 hs
      subst e1; subst e2; subst e3
      have h0' : ((p3.map (·.1)).getD 1 == 0) = false := by
        rw [q3]
        cases hp : st.part with
        | none => rfl
        | some c =>
          rw [hp] at h0
          exact beq_eq_false_iff_ne.mpr fun e => h0 (by rw [show c = 0 from e])
      refine wpAny_getItem_str_slice ⟨_, ei, ci, di⟩ h0' ?_
      have eidx : slicePicked x p1 p2 p3 = sliceRange (sliceBounds l.part u.part st.part x.cps.toList.length).1 (sliceBounds l.part u.part st.part x.cps.toList.length).2.1 (sliceBounds l.part u.part st.part x.cps.toList.length).2.2 := by
        unfold slicePicked
        rw [q1, q2, q3]
        rfl
      have epick : (slicePicked x p1 p2 p3).filterMap (x.cps[·]?) = pickD x.cps.toList l.part u.part st.part := by
        rw [eidx]; unfold pickD; simp
      have elen : ∀ i ∈ slicePicked x p1 p2 p3, i < x.length ∨ True := fun _ _ => .inr trivial
      unfold sliceMade
      split
      · rename_i hc
        -- the whole text: the slice is the text itself
        rw [Bool.and_eq_true] at hc
        have hstep : (p3.map (·.1)).getD 1 = 1 := by simpa using hc.1
        have hlen : (slicePicked x p1 p2 p3).length = x.length := by simpa using hc.2
        have hres : sliceStr x l.part u.part st.part = x := by
          unfold sliceStr
          have hb : sliceBounds l.part u.part st.part x.cps.toList.length = sliceBounds l.part u.part none x.cps.toList.length := by
            rw [q3] at hstep
            unfold sliceBounds
            rw [hstep]; rfl
          have hp : pickD x.cps.toList l.part u.part st.part = pickD x.cps.toList l.part u.part none := by unfold pickD; rw [hb]
          have hl2 : (sliceRange (sliceBounds l.part u.part none x.cps.toList.length).1 (sliceBounds l.part u.part none x.cps.toList.length).2.1 (sliceBounds l.part u.part none x.cps.toList.length).2.2).length = x.cps.toList.length := by
            rw [← hb, ← eidx, hlen]; simp [Str.length]
          rw [hp, pickD_plain]
          rw [sliceBounds_plain] at hl2
          simp only [sliceRange_one, List.length_map, List.length_range] at hl2
          have hhi : u.part.elim x.cps.toList.length (clipAt x.cps.toList.length) ≤ x.cps.toList.length := by
            cases u.part with
            | none => exact Nat.le_refl _
            | some i =>
              have := clipAt_cast x.cps.toList.length i
              simp only [Option.elim]
              omega
          have e1 : l.part.elim 0 (clipAt x.cps.toList.length) = 0 ∨ x.cps.toList.length = 0 := by omega
          rcases e1 with e1 | e1
          · rw [e1, List.drop_zero, List.take_of_length_le (by omega)]
          · have e2 : x.cps.toList = [] := List.eq_nil_of_length_eq_zero e1
            obtain ⟨⟨lst⟩⟩ := x
            have e3 : lst = [] := by simpa using e2
            subst e3; simp
        rw [hres]
        exact ⟨.refl, .str _ _⟩
      · refine ⟨?_, .tok, ?_⟩
        · rw [epick]
          show (pickD x.cps.toList l.part u.part st.part).toArray.size ≤ sizeLine
          rw [List.size_toArray]
          exact Nat.le_trans (pickD_length_le _ _ _ _) (by simpa [Str.length] using hz)
        · rw [epick]; exact .str _ _

/-! split -/
theorem repAll_strsFrom {ok : Addr → Prop} {h : Heap} : ∀ (l : List Str) (tk : Nat), RepAll ok h (strsFrom tk l) (l.map .str)
  | [], _ => .nil
  | x :: r, tk => .cons (.str x tk) (repAll_strsFrom r (tk + 1))
theorem CallD.split {x y : Str} {m : Int} (hy : (y.length == 0) = false) (h0 : 0 ≤ m) (h1 : m < 2 ^ 62) (hz : x.length + 2 ≤ sizeLine) :
    CallD G n (.builtin "str.split") [.str x, .str y, .int m] (.list ((Txt.splitMax x y m).map .str)) := fun ok A s E vs r k f rs => by
  cases rs with
  | cons a rs => cases rs with
    | cons b rs => cases rs with
      | cons c rs =>
        cases rs; cases a; cases b; cases c
        rename_i t u v
        have hk : (decide (m < -(2 ^ 63 : Int)) || decide (m ≥ 2 ^ 63)) = false := by
          rw [decide_eq_false (by omega), decide_eq_false (by omega)]; rfl
        have fin : ∀ (l : List Str) (ws : List Value) (tk : Nat), Txt.splitMax x y m = l → RepAll ok s.heap ws (l.map .str) → Stp G.base s { s with heap := s.heap.push { cls := .type "list", data := .seq ws.toArray }, toks := tk } ∧
            Rep ok (s.heap.push { cls := .type "list", data := .seq ws.toArray }) (.ref s.heap.objs.size) (.list ((Txt.splitMax x y m).map .str)) := fun l ws tk e rp => by
          have st : Stp G.base s { s with heap := s.heap.push { cls := .type "list", data := .seq ws.toArray }, toks := tk } := .push
          exact ⟨st, .list (f _ fresh_get) ⟨_, Heap.get?_push_size _ rfl, rfl, 0, rfl⟩ (by rw [e]; exact rp.stp st)⟩
        have hn : (Builtin.Str.partsBetween x (Builtin.Str.occurrences x y 0 x.length (limitOf x m)) y.length).length ≤ sizeLine := by
          have e1 := StrLaws.occ_length_le_len x y 0 x.length (limitOf x m)
          rw [length_partsBetween]; omega
        cases c1 : (decide (x.length < y.length) || decide (Builtin.Str.strKind x < Builtin.Str.strKind y))
        · cases hf : (Builtin.Str.occurrences x y 0 x.length (limitOf x m)).isEmpty
          · refine call_meets F.slot_str_split (typeIs_str _ _ _) F.entry_str_split (F.args_str_split_3 _ _ _) (meets_str_split_sep_max x y m t u v hk c1 hy hf (by omega) hn) ?_
            exact fin _ _ _ ((if_neg (ne_true_of_eq_false c1)).trans (if_neg (ne_true_of_eq_false hf))) (repAll_strsFrom _ _)
          · exact call_meets F.slot_str_split (typeIs_str _ _ _) F.entry_str_split (F.args_str_split_3 _ _ _) (meets_str_split_max_not_found x y m t u v hk c1 hy hf)
              (fin [x] [.str x t] s.toks ((if_neg (ne_true_of_eq_false c1)).trans (if_pos hf)) (.cons (.str x t) .nil))
        · exact call_meets F.slot_str_split (typeIs_str _ _ _) F.entry_str_split (F.args_str_split_3 _ _ _) (meets_str_split_max_cannot_occur x y m t u v hk c1)
            (fin [x] [.str x t] s.toks (if_pos c1) (.cons (.str x t) .nil))
theorem MethD.split {x : Str} : MethD G n (.str x) "split" (.builtin "str.split") := fun ok A s E v pl r k f rp => by
  cases rp; exact GM.split ⟨.refl, rfl⟩

/-! isinstance -/
theorem CallD.isi_list_list {ds : List D} : CallD G n (.builtin "isinstance") [.list ds, .raw (.type "list")] (.bool true) := fun ok A s E vs r k f rs => by
  cases rs with
  | cons a rs => cases rs with
    | cons b rs =>
      cases rs; cases b
      cases a with
      | list o l rr => obtain ⟨ob, e, c, _⟩ := l; exact IsiPair.list_list e c ⟨.refl, .bool _⟩
theorem CallD.isi_tuple_list {ds : List D} : CallD G n (.builtin "isinstance") [.tuple ds, .raw (.type "list")] (.bool false) := fun ok A s E vs r k f rs => by
  cases rs with
  | cons a rs => cases rs with
    | cons b rs =>
      cases rs; cases b
      cases a with
      | tuple o l rr => obtain ⟨ob, e, c, _⟩ := l; exact IsiPair.tuple_list e c ⟨.tok, .bool _⟩

/-! range -/
theorem CallD.range {m : Int} : CallD G n (.type "range") [.int m] (.rng 0 m) := fun ok A s E vs r k f rs => by
  cases rs with
  | cons a rs =>
    cases rs; cases a
    exact call_range_1 ⟨.push, .rng (f _ fresh_get) (Heap.get?_push_size _ rfl)⟩
theorem CallD.range2 {l m : Int} : CallD G n (.type "range") [.int l, .int m] (.rng l m) := fun ok A s E vs r k f rs => by
  cases rs with
  | cons a rs => cases rs with
    | cons b rs =>
      cases rs; cases a; cases b
      exact call_range_2 ⟨.push, .rng (f _ fresh_get) (Heap.get?_push_size _ rfl)⟩
def rngList (lo hi : Int) : List D := (List.range (hi - lo).toNat).map fun i => .int (lo + (i : Nat))
theorem IterD.rng {lo hi : Int} (h1 : -(2 ^ 62) ≤ lo) (h2 : lo < 2 ^ 62) (h3 : -(2 ^ 62) ≤ hi) (h4 : hi < 2 ^ 62) : IterD G n (.rng lo hi) (rngList lo hi) := fun ok A s E v target r k f rp => by
  cases rp with
  | rng o hr =>
    refine wpAny_pyIter_range hr (small_one h1 h2 h3 h4) ?_
    have hsz : Builtin.Range.rangeSize lo hi 1 = (((hi - lo).toNat : Nat) : Int) := by rw [rangeSize_one]; split <;> omega
    refine ⟨.push, s.heap.objs.size, _, rfl, fresh_get, by rw [Heap.get?_push_size _ rfl]; rfl, Itr.of_walks (vs := []) (ds' := []) (Walks.range r.handled s.heap.objs.size lo 1 (hi - lo).toNat) (by simp [rngList]) (fun b hb => .inl (List.mem_singleton.mp hb)) ?_ ?_, ⟨?_, .nil⟩⟩
    · intro i h q
      exact ⟨_, "range_iterator", q, rfl, rfl, by decide⟩
    · rintro i v d h hd ⟨t, rfl⟩ _
      simp only [rngList, List.getElem?_map, Option.map_eq_some_iff] at hd
      obtain ⟨j, hj, rfl⟩ := hd
      have : j = i := by
        rw [List.getElem?_range] at hj
        · exact (Option.some.inj hj).symm
        · have := (List.getElem?_eq_some_iff.mp hj).1; simpa using this
      rw [this, Int.mul_one]; exact .int _ _
    · show IsRangeIter _ _ _ _ _
      rw [← hsz]
      have := Heap.get?_push_size s.heap (o := { cls := .type "range_iterator", data := .fields #[rawInt lo, rawInt (Builtin.Range.rangeSize lo hi 1), rawInt 1] }) rfl
      simpa [IsRangeIter] using this

/-! chains -/
theorem Tr.cmp2 {a b c : Expr} {op1 op2 : CmpOp} {p : Pos} {da db dc : D} {x y : Bool} (ha : EvB G n env σ a da) (hb : EvB G n env σ b db) (hc : EvB G n env σ c dc) (h1 : CmpD G n op1 da db x) (h2 : CmpD G n op2 db dc y)
    (hm : lastMarks [op1, op2] [b, c] = false := by with_unfolding_all rfl) : Tr G n env σ (.Compare a [op1, op2] [b, c] p) (x && y) := fun ok A s E r k i =>
  isTrue_chain (wpAny_mono (ha ok A s E r k i) (fun va s₁ p₁ => test_link (wpAny_mono (hb ok A s₁ E r (p₁.1.ext.base k) (i.ext p₁.1.ext)) (fun vb s₂ p₂ => by
    have st := p₁.1.trans p₂.1
    refine wpAny_mono (h1 _ A s₂ E va vb r (st.ext.base k) (i.ext st.ext).fresh (p₁.2.stp p₂.1) p₂.2) (fun vc s₃ p₃ => ?_) fun _ _ x => x
    obtain ⟨st3, rfl⟩ := p₃
    have st' := st.trans st3
    refine wpAny_truthy_bool ?_
    cases x with
    | false => exact ⟨st', rfl⟩
    | true =>
      refine test_last (wpAny_mono (hc ok A s₃ E r (st'.ext.base k) (i.ext st'.ext)) (fun vc s₄ p₄ => ?_) fun _ _ x => x)
      have st'' := st'.trans p₄.1
      refine wpAny_mono (h2 _ A s₄ E vb vc r (st''.ext.base k) (i.ext st''.ext).fresh ((p₂.2.stp st3).stp p₄.1) p₄.2) (fun vd s₅ p₅ => ?_) fun _ _ x => x
      obtain ⟨st5, rfl⟩ := p₅
      exact wpAny_truthy_bool ⟨st''.trans st5, rfl⟩) fun _ _ x => x)) fun _ _ x => x) hm

end
end Mine

end
section
open PySem PySem.W PyProof.Rows PySem.Calls
set_option maxRecDepth 100000
namespace Mine

section
variable {G : Gr} {n : Nat} {env : Env} {σ : St} {sc : Scope}

/-! the closure of a comprehension -/
theorem closureFor_is (scope : Scope) (h : ∀ p ∈ scope.names, p.2 = .free → (env.cells.lookup p.1).isSome = true) :
    ∃ cl, closureFor scope env = pure cl ∧ (∀ y c, (y, c) ∈ cl → env.cells.lookup y = some c ∧ (y, NameKind.free) ∈ scope.names) ∧ (∀ p ∈ scope.names, p.2 = .free → cl.lookup p.1 = env.cells.lookup p.1) ∧ cl.map (·.1) = ((scope.names.filter (·.2 == .free)).map (·.1)).reverse := by
  have go : ∀ (f : Str × NameKind → List (Str × Addr) → Sem (ForInStep (List (Str × Addr)))) (hf : ∀ y k cs, f (y, k) cs = if k == NameKind.free then (do let a ← cellOf env y; pure (ForInStep.yield ((y, a) :: cs))) else pure (ForInStep.yield cs))
      (names : List (Str × NameKind)) (acc : List (Str × Addr)), (∀ p ∈ names, p.2 = .free → (env.cells.lookup p.1).isSome = true) → (∀ y c, (y, c) ∈ acc → env.cells.lookup y = some c) →
      ∃ cl, (forIn names acc f) = pure cl ∧
        (∀ y c, (y, c) ∈ cl → (y, c) ∈ acc ∨ (env.cells.lookup y = some c ∧ (y, NameKind.free) ∈ names)) ∧ (∀ q ∈ acc, q ∈ cl) ∧ (∀ p ∈ names, p.2 = .free → ∃ c, (p.1, c) ∈ cl) ∧ cl.map (·.1) = ((names.filter (·.2 == .free)).map (·.1)).reverse ++ acc.map (·.1) := by
    intro f hf names
    induction names with
    | nil => intro acc _ _; exact ⟨acc, by rw [List.forIn_nil], fun y c m => .inl m, fun _ q => q, (fun p hp => nomatch hp), by simp⟩
    | cons x r ih =>
      intro acc hn ha
      obtain ⟨y, k⟩ := x
      rw [List.forIn_cons, hf]
      by_cases hk : k = .free
      · subst hk
        obtain ⟨c, hc⟩ := Option.isSome_iff_exists.mp (hn (y, .free) (.head _) rfl)
        obtain ⟨cl, e, h1, h2, h3, h4⟩ := ih ((y, c) :: acc) (fun p hp => hn p (.tail _ hp)) (fun z d m => by
          rcases List.mem_cons.mp m with q | q
          · cases q; exact hc
          · exact ha z d q)
        refine ⟨cl, ?_, fun z d m => ?_, fun q hq => h2 q (.tail _ hq), fun p hp hfr => ?_, by rw [h4]; simp⟩
        · have : cellOf env y = pure c := by unfold cellOf; rw [hc]
          simp only [beq_self_eq_true, if_true, this, pure_bind]
          exact e
        · rcases h1 z d m with q | q
          · rcases List.mem_cons.mp q with q | q
            · cases q; exact .inr ⟨hc, .head _⟩
            · exact .inl q
          · exact .inr ⟨q.1, .tail _ q.2⟩
        · rcases List.mem_cons.mp hp with q | q
          · subst q; exact ⟨c, h2 _ (.head _)⟩
          · exact h3 p q hfr
      · obtain ⟨cl, e, h1, h2, h3, h4⟩ := ih acc (fun p hp => hn p (.tail _ hp)) ha
        have hb : (k == NameKind.free) = false := by simpa using hk
        refine ⟨cl, ?_, fun z d m => (h1 z d m).imp id fun q => ⟨q.1, .tail _ q.2⟩, h2, fun p hp hfr => ?_, by rw [h4]; simp [hk]⟩
        · simp only [hb, Bool.false_eq_true, if_false, pure_bind]
          exact e
        · rcases List.mem_cons.mp hp with q | q
          · subst q; exact absurd hfr hk
          · exact h3 p q hfr
  have key : ∃ cl, closureFor scope env = pure cl ∧ (∀ y c, (y, c) ∈ cl → (y, c) ∈ ([] : List (Str × Addr)) ∨ (env.cells.lookup y = some c ∧ (y, NameKind.free) ∈ scope.names)) ∧ (∀ p ∈ scope.names, p.2 = .free → ∃ c, (p.1, c) ∈ cl) ∧ cl.map (·.1) = ((scope.names.filter (·.2 == .free)).map (·.1)).reverse := by
    obtain ⟨cl, e, h1, _, h3, h4⟩ := go (fun x cs => match x with
      | (name, kind) => if kind == NameKind.free then (do let a ← cellOf env name; pure (ForInStep.yield ((name, a) :: cs))) else pure (ForInStep.yield cs)) (fun y k cs => rfl) scope.names [] h (fun y c m => nomatch m)
    have e0 : closureFor scope env = (forIn scope.names ([] : List (Str × Addr)) (fun x cs => match x with
      | (name, kind) => if kind == NameKind.free then (do let a ← cellOf env name; pure (ForInStep.yield ((name, a) :: cs))) else pure (ForInStep.yield cs)) >>= fun cs => pure cs) := rfl
    exact ⟨cl, by rw [e0, e]; rfl, h1, h3, by simpa using h4⟩
  obtain ⟨cl, e, h1, h3, h4⟩ := key
  have h1' : ∀ y c, (y, c) ∈ cl → env.cells.lookup y = some c ∧ (y, NameKind.free) ∈ scope.names := fun y c m => (h1 y c m).elim (fun q => nomatch q) id
  refine ⟨cl, e, h1', fun p hp hf => ?_, h4⟩
  · obtain ⟨c, hc⟩ := h3 p hp hf
    have e1 := (h1' _ _ hc).1
    rw [e1]
    -- the first entry under that name says the same
    have : ∀ l : List (Str × Addr), (∀ y c, (y, c) ∈ l → env.cells.lookup y = some c) → (p.1, c) ∈ l → l.lookup p.1 = some c := by
      intro l
      induction l with
      | nil => intro _ m; cases m
      | cons q r ih =>
        intro hl m
        obtain ⟨y, d⟩ := q
        rw [List.lookup_cons]
        cases e3 : p.1 == y with
        | true =>
          have := hl y d (.head _)
          rw [← beq_iff_eq.mp e3, e1] at this; exact this.symm
        | false =>
          rcases List.mem_cons.mp m with q | q
          · cases q; simp at e3
          · exact ih (fun y c m => hl y c (.tail _ m)) q
    exact this cl (fun y c m => (h1' y c m).1) hc

/-- what the frame of a comprehension knows of its names -/
structure CEnv (cenv : Env) (scope : Scope) : Prop where
  kind : ∀ x k, scope.names.lookup x = some k → k ≠ .free → cenv.kindOf x = some k
theorem CEnv.loc {cenv : Env} {scope : Scope} (C : CEnv cenv scope) {x : Str} (h : scope.names.lookup x = some .local) : cenv.kindOf x = some .local := C.kind x _ h (by decide)
theorem CEnv.glob {cenv : Env} {scope : Scope} (C : CEnv cenv scope) {x : Str} (h : scope.names.lookup x = some .globalImplicit) : cenv.kindOf x = some .globalImplicit := C.kind x _ h (by decide)

theorem lookup_relabel {env : Env} : ∀ {names : List (Str × NameKind)} {x : Str} {k : NameKind}, names.lookup x = some k →
    (names.map fun (n, k) => if (k == NameKind.free && env.scope.kind == .function && env.kindOf n == some .cell) then (n, NameKind.cell) else (n, k)).lookup x = some k ∨
    (k = .free ∧ (names.map fun (n, k) => if (k == NameKind.free && env.scope.kind == .function && env.kindOf n == some .cell) then (n, NameKind.cell) else (n, k)).lookup x = some .cell)
  | [], _, _, h => by simp at h
  | (n, k') :: r, x, k, h => by
    have ih := @lookup_relabel env r x k
    rw [List.map_cons]
    cases hx : x == n with
    | true =>
      rw [List.lookup_cons, hx] at h
      cases h
      by_cases hc : (k' == NameKind.free && env.scope.kind == .function && env.kindOf n == some .cell) = true
      · refine .inr ⟨by simp only [Bool.and_eq_true] at hc; exact beq_iff_eq.mp hc.1.1, ?_⟩
        dsimp only; rw [if_pos hc, List.lookup_cons, hx]
      · refine .inl ?_
        dsimp only; rw [if_neg hc, List.lookup_cons, hx]
    | false =>
      rw [List.lookup_cons, hx] at h
      dsimp only at ih ⊢
      by_cases hc : (k' == NameKind.free && env.scope.kind == .function && env.kindOf n == some .cell) = true
      · rw [if_pos hc, List.lookup_cons, hx]; exact ih h
      · rw [if_neg hc, List.lookup_cons, hx]; exact ih h

/-- a comprehension's target takes a value: its own names alone -/
def AssC (G : Gr) (n : Nat) (cenv : Env) (t : Expr) (d : D) (f : St → St) : Prop := ∀ σ ok A s E v, Room n A → G.base.StaysIn s.heap → Inv G.base ok cenv σ s.heap → owned σ = [] → Rep (okO ok σ) s.heap v d →
  wpAny G.M A (assign t cenv v) (fun _ s' => Inv G.base ok cenv (f σ) s'.heap ∧ Mv G.base (· = cenv.locals) s s' ∧ owned (f σ) = []) E s
theorem owned_setS_nil {x : Str} {d : D} (h : owned σ = []) : owned (setS x (.val d) σ) = [] := List.eq_nil_iff_forall_not_mem.mpr fun a m => by have := owned_setS_val m; rw [h] at this; cases this
theorem wpAny_storeL {M : Model} {A : Around} {E : Value → Shared → Prop} {s : Shared} {base : Heap} {x : Str} {v : Value} {Q : Unit → Shared → Prop} (F : Frame env s.heap) (hk : env.kindOf x = some .local)
    (h : ∀ s', Holds env s'.heap x v → (∀ y u, y ≠ x → Holds env s.heap y u → Holds env s'.heap y u) → Frame env s'.heap → Mv base (· = env.locals) s s' → Q () s') : wpAny M A (storeName env x v) Q E s := by
  obtain ⟨m, hn⟩ := F.ns
  refine wpAny_storeName_local hk hn (fun h' hn' hs' => ?_) (by rw [F.kind]; rfl)
  have hL : ∃ o, h'.get? env.locals = some o := let ⟨o, _, _, q, _⟩ := hn'; ⟨o, q⟩
  have keep : ∀ b, b ≠ env.locals → h'.get? b = s.heap.get? b := fun b hb => hs'.2 b hb
  refine h _ (.inl ⟨hk, _, hn', by simp⟩) (fun y u hy q => ?_) ⟨F.kind, ⟨_, hn'⟩, fun z c l => ?_, F.apart, F.away, F.glob, F.blt⟩ ⟨fun b o w e => ⟨o, (keep b w).trans e, rfl, rfl, fun _ => rfl⟩, fun b e => ?_, rfl, .refl⟩
  · rcases q with ⟨k, m', n', r⟩ | ⟨k, c, l, r⟩
    · refine .inl ⟨k, _, hn', ?_⟩
      have : m' y = m y := by
        obtain ⟨o, es, ep, q1, q2, _, q3⟩ := n'
        obtain ⟨o₂, es₂, ep₂, p1, p2, _, p3⟩ := hn
        rw [q1] at p1; cases p1; rw [q2] at p2; cases p2
        rw [← q3, ← p3]
      simp [hy, ← this, r]
    · exact .inr ⟨k, c, l, r.sameBut hs' (F.away y c l)⟩
  · obtain ⟨u, q⟩ := F.cells z c l
    exact ⟨u, q.sameBut hs' (F.away z c l)⟩
  · by_cases hb : b = env.locals
    · obtain ⟨o, q⟩ := hL
      have e' : h'.get? b = none := e
      rw [hb, q] at e'; cases e'
    · rw [← keep b hb]; exact e
theorem AssC.name {cenv : Env} {x : Str} {p : Pos} {d : D} (hk : cenv.kindOf x = some .local) : AssC G n cenv (.Name x p) d (setS x (.val d)) := fun σ ok A s E v r k i ho rp =>
  wpAny_assign_Name (wpAny_storeL (base := G.base) i.frame hk fun s' hv hot F m => ⟨i.set_val (m.weak fun _ w => .inl w) F hv hot rp, m, owned_setS_nil ho⟩)
def AssCL (G : Gr) (n : Nat) (cenv : Env) (ts : List Expr) (ds : List D) (f : St → St) : Prop := ∀ σ ok A s E vs, Room n A → G.base.StaysIn s.heap → Inv G.base ok cenv σ s.heap → owned σ = [] → RepAll (okO ok σ) s.heap vs ds →
  wpAny G.M A (assignInOrder ((assignEach ts cenv).map (·.2)) vs) (fun _ s' => Inv G.base ok cenv (f σ) s'.heap ∧ Mv G.base (· = cenv.locals) s s' ∧ owned (f σ) = []) E s
theorem AssCL.nil {cenv : Env} : AssCL G n cenv [] [] id := fun σ ok A s E vs r k i ho rs => by
  cases rs
  exact wpAny_pure ⟨i, Stp.refl.mv, ho⟩
theorem AssCL.cons {cenv : Env} {t : Expr} {ts : List Expr} {d : D} {ds : List D} {f g : St → St} (h : AssC G n cenv t d f) (hs : AssCL G n cenv ts ds g) (he : assignEach (t :: ts) cenv = (false, assign t cenv) :: assignEach ts cenv := by rfl) :
    AssCL G n cenv (t :: ts) (d :: ds) (fun σ => g (f σ)) := fun σ ok A s E vs r k i ho rs => by
  cases rs with
  | cons a rest =>
    rw [he]
    refine wpAny_bind (wpAny_holding (wpAny_mono (h σ ok A s E _ r k i ho a) (fun _ s₁ p₁ => ?_) fun _ _ x => x))
    have up : ∀ b, okO ok σ b → okO ok (f σ) b := fun b q => ⟨q.1, by rw [p₁.2.2]; simp⟩
    have rest' : RepAll (okO ok (f σ)) s₁.heap _ _ := rest.extBut p₁.2.1.ext (fun a q w z => node_not_frame i.frame w (.inl z)) fun b q _ => up b q
    refine wpAny_mono (hs (f σ) ok A s₁ E _ r (p₁.2.1.base k fun b w => i.off b (.inl (.inl w))) p₁.1 p₁.2.2 rest') (fun _ s₂ p₂ => ⟨p₂.1, p₁.2.1.trans p₂.2.1 fun b w => .inl w, p₂.2.2⟩) fun _ _ x => x
theorem AssC.tuple {cenv : Env} {ts : List Expr} {k : Nat} {p : Pos} {ds : List D} {f : St → St} (h : AssCL G n cenv ts ds f) (hn : ts.length = ds.length) (hstar : (assignEach ts cenv).findIdx? (·.1) = none := by rfl) : AssC G n cenv (.Tuple ts k p) (.tuple ds) f := fun σ ok A s E v r k i ho rp => by
  cases rp with
  | tuple o l rs =>
    refine assign_Tuple_tuple r.handled l (by rw [assignEach_length, hn, List.size_toArray, rs.length]) hstar fun h' he => ?_
    have st : Stp G.base s { s with heap := h' } := ⟨.of_stays fun b o e => he b o (Nat.ne_of_lt (Heap.lt_size e)) e, rfl, .refl⟩
    refine wpAny_mono (h σ ok A { s with heap := h' } E _ r (st.ext.base k) (i.ext st.ext) ho (rs.stp st)) (fun _ s₂ p₂ => ⟨p₂.1, (st.mv (W := (· = cenv.locals))).trans p₂.2.1 fun _ w => .inl w, p₂.2.2⟩) fun _ _ x => x

/-- the names that a comprehension takes over -/
def Cap (env : Env) (σ : St) (scope : Scope) : St → Prop
  | [] => True
  | (x, .val d) :: r => (σ.lookup x = some (.val d) ∧ scope.names.lookup x = some .free ∧ env.kindOf x = some .cell) ∧ Cap env σ scope r
  | (_, .own _ _) :: _ => False
theorem Cap.get {scope : Scope} {x : Str} {d : D} : ∀ {σc : St}, Cap env σ scope σc → σc.lookup x = some (.val d) → σ.lookup x = some (.val d) ∧ scope.names.lookup x = some .free ∧ env.kindOf x = some .cell
  | (y, .val e) :: r, h, l => by
    rw [List.lookup_cons] at l
    cases q : x == y with
    | true => rw [q] at l; cases l; rw [beq_iff_eq.mp q]; exact h.1
    | false => rw [q] at l; exact Cap.get h.2 l
theorem Cap.owned {scope : Scope} : ∀ {σc : St}, Cap env σ scope σc → Mine.owned σc = []
  | [], _ => rfl
  | (y, .val e) :: r, h => Cap.owned (σc := r) h.2
  | (y, .own _ _) :: r, h => h.elim
theorem Cap.noOwn {scope : Scope} {x : Str} {a : Addr} {es : List D} : ∀ {σc : St}, Cap env σ scope σc → σc.lookup x ≠ some (.own a es)
  | [], _ => nofun
  | (y, .val e) :: r, h => by
    rw [List.lookup_cons]
    cases x == y with
    | true => exact nofun
    | false => exact Cap.noOwn h.2
  | (y, .own _ _) :: r, h => h.elim

end
end Mine

end
section
open PySem PySem.W PyProof.Rows PySem.Calls
set_option maxRecDepth 100000
namespace Mine

section
variable {G : Gr} {n : Nat} {env : Env} {σ : St} {sc : Scope}

/-- objects change that the frame's state does not lean on -/
theorem Inv.mvW {base : Heap} {ok : Addr → Prop} {W : Addr → Prop} {s s' : Shared} (i : Inv base ok env σ s.heap) (m : Mv base W s s') (hf : ∀ a, W a → ¬ Wr env σ a) (hn : ∀ a, W a → okO ok σ a → ¬ IsNode s.heap a) : Inv base ok env σ s'.heap := by
  have nf : ∀ a, okO ok σ a → IsNode s.heap a → ¬ W a := fun a o q z => hn a z o q
  have hh : ∀ y v, Holds env s.heap y v → Holds env s'.heap y v := fun y v q => by
    rcases q with ⟨k, mm, hns, r⟩ | ⟨k, c, hc, r⟩
    · obtain ⟨o, es, ep, e, d, rr⟩ := hns
      obtain ⟨o', e', _, d', _⟩ := m.ext _ o (fun z => hf _ z (.inl (.inl rfl))) e
      exact .inl ⟨k, mm, ⟨o', es, ep, e', d'.trans d, rr⟩, r⟩
    · obtain ⟨o, e, d⟩ := r
      obtain ⟨o', e', _, d', _⟩ := m.ext _ o (fun z => hf _ z (.inl (.inr ⟨y, hc⟩))) e
      exact .inr ⟨k, c, hc, o', e', d'.trans d⟩
  refine ⟨⟨i.frame.kind, ?_, fun y c q => ?_, i.frame.apart, i.frame.away, i.frame.glob, i.frame.blt⟩, i.off, fun b e => i.fresh b (m.dom b e), fun y d q => ?_, fun y b es q => ?_, fun b w => ?_, i.once⟩
  · obtain ⟨mm, o, es, ep, e, d, rr⟩ := i.frame.ns
    obtain ⟨o', e', _, d', _⟩ := m.ext _ o (fun z => hf _ z (.inl (.inl rfl))) e
    exact ⟨mm, o', es, ep, e', d'.trans d, rr⟩
  · obtain ⟨v, o, e, d⟩ := i.frame.cells y c q
    obtain ⟨o', e', _, d', _⟩ := m.ext _ o (fun z => hf _ z (.inl (.inr ⟨y, q⟩))) e
    exact ⟨v, o', e', d'.trans d⟩
  · obtain ⟨u, p, r⟩ := i.vals y d q
    exact ⟨u, hh y u p, r.extBut m.ext nf fun _ w _ => w⟩
  · obtain ⟨p, o, vs, lv, rs⟩ := i.owns y b es q
    exact ⟨hh y _ p, o, vs, m.ext.own (fun z => hf b z (.inr (owned_of_lookup q))) lv, rs.extBut m.ext nf fun _ w _ => w⟩
  · obtain ⟨vs, lv⟩ := i.there b w
    exact ⟨vs, m.ext.own (fun z => hf b z (.inr w)) lv⟩

/-- the tests of a comprehension -/
def Tests (G : Gr) (n : Nat) (cenv : Env) (σ : St) (ifs : List Expr) (b : Bool) : Prop := ∀ ok A s E, Room n A → G.base.StaysIn s.heap → Inv G.base ok cenv σ s.heap →
  wpAny G.M A (forIn ifs true fun c r => if r = true then do let ok ← isTrue c cenv (eval c cenv); pure (ForInStep.yield ok) else pure (ForInStep.yield r)) (fun r s' => Stp G.base s s' ∧ r = b) E s
theorem Tests.nil {cenv : Env} : Tests G n cenv σ [] true := fun _ _ _ _ _ _ _ => wpAny_tests_nil ⟨.refl, rfl⟩
theorem Tests.one {cenv : Env} {c : Expr} {b : Bool} (h : Tr G n cenv σ c b) : Tests G n cenv σ [c] b := fun ok A s E r k i => wpAny_tests_one (h ok A s E r k i)

theorem compLoop_any {prog : Program} {w : World} {A : Around} {R : Result → Shared → Prop} {s : Shared} {elt target iter : Expr} {ifs : List Expr} {scope : Scope} {pos : Pos} {it acc : Value} {env : Env} (I : Nat → Shared → Prop)
    (turn : ∀ n s, I n s → ∀ E, (∀ e s', False → E e s') → wpAny (model prog w) A (pyNext it) (fun r s₁ => match r with
      | none => R (.ok .next) s₁
      | some v => wpAny (model prog w) A (letOwnedTupleGo target it v) (fun _ s₁' => wpAny (model prog w) A (assign target env v) (fun _ s₂ =>
          wpAny (model prog w) A (forIn ifs true fun c r => if r = true then do let ok ← isTrue c env (eval c env); pure (ForInStep.yield ok) else pure (ForInStep.yield r)) (fun ok s₃ =>
            if ok = true then wpAny (model prog w) A (eval elt env) (fun x s₄ =>
              wpAny (model prog w) A (call (.builtin "list.append") [acc, x]) (fun _ s₅ => ∃ m, m < n ∧ I m s₅) E s₄) E s₃
            else ∃ m, m < n ∧ I m s₃) E s₂) E s₁') E s₁) E s)
    (n : Nat) (h : I n s) : codeAny (model prog w) A (.compLoop (.ListComp elt [⟨target, iter, ifs, 0⟩] scope pos) 0 it acc env) R s := by
  refine codeAny_loop rfl I (fun n s hI => ?_) n h
  show wpAny _ A ((compTurn (.ListComp elt [⟨target, iter, ifs, 0⟩] scope pos) 0 it acc env).onRaise (fun x => do noteFrame x env; theTreesLotGoes x)) _ _ s
  refine wpAny_noted ?_
  rw [compTurn_list]
  refine wpAny_bind (wpAny_standAt (wpAny_bind (wpAny_mono (turn n s hI _ (fun _ _ f => f.elim)) (fun r s₁ h₁ => ?_) fun _ _ h' => h')))
  cases r with
  | none => exact wpAny_pure h₁
  | some v =>
    refine wpAny_bind (wpAny_mono h₁ (fun _ s₁' h₁' => ?_) fun _ _ h' => h')
    refine wpAny_bind (wpAny_mono h₁' (fun _ s₂ h₂ => wpAny_bind (wpAny_mono h₂ (fun ok s₃ h₃ => ?_) fun _ _ h' => h')) fun _ _ h' => h')
    cases ok with
    | false => exact wpAny_pure ⟨rfl, h₃⟩
    | true =>
      exact wpAny_bind (wpAny_bind (wpAny_mono h₃ (fun x s₄ h₄ => wpAny_bind (wpAny_mono h₄ (fun _ s₅ h₅ => wpAny_pure (wpAny_pure ⟨rfl, h₅⟩)) fun _ _ h' => h')) fun _ _ h' => h'))

theorem mem_names_of_lookup {names : List (Str × NameKind)} {x : Str} {k : NameKind} (h : names.lookup x = some k) : (x, k) ∈ names := mem_of_lookup h

theorem comp_core {elt target iter : Expr} {ifs : List Expr} {scope : Scope} {pos ipos : Pos} {ds : List D} {σc : St} {f : D → St → St} {keep : D → Bool} {res : D → D} {use : Option (Value → Sem Unit)} {Q : Value → Shared → Prop}
    (FE : FEnv env sc) (hfree : (scope.names.all fun p => p.2 != .free || sc.names.lookup p.1 == some .cell) = true) (hnd : (scope.names.map (·.1)).Nodup) (hcell : ∀ y ∈ scope.names, y.2 ≠ .cell) (hkind : scope.kind = .function)
    (hcap : Cap env σ scope σc) (hi : EvI G n env σ iter target ds) (hsub : ∀ d ∈ ds, Sub σc (f d σc))
    (hturn : ∀ cenv, CEnv cenv scope → ∀ d ∈ ds, AssC G n cenv target d (f d) ∧ Tests G n cenv (f d σc) ifs (keep d) ∧ (keep d = true → Ev G n cenv (f d σc) elt (res d)))
    (hz : ds.length < sizeLine) (hs : ∀ x, foldedSetIterable iter env x = pure x)
    {ok : Addr → Prop} {A : Around} {s : Shared} {E : Value → Shared → Prop} (r : Room n A) (k : G.base.StaysIn s.heap) (i : Inv G.base ok env σ s.heap)
    (K : ∀ L C ws s' m, Stp G.base s s' → s.heap.get? L = none → s.heap.get? C = none → L ≠ C → OwnL s'.heap L ws → RepAll (fun b => okO ok σ b ∧ b ≠ L) s'.heap ws ((ds.filter keep).map res) → s'.heap.Ns C m → compPost G.M A E use Q (.ref L) C (.ok .next) s') :
    wpAny G.M A (comprehension (.ListComp elt [⟨target, iter, ifs, 0⟩] scope pos) scope env ipos (newList []) false (eval iter env) use) Q E s := by
  have hcells : ∀ p ∈ scope.names, p.2 = .free → (env.cells.lookup p.1).isSome = true := fun p hp hf => by
    have := List.all_eq_true.mp hfree p hp
    rw [hf] at this
    exact FE.cells p.1 (by simpa using this)
  obtain ⟨cl, hclos, hcl1, hcl2, hcl3⟩ := closureFor_is (env := env) scope hcells
  have hnames : ∀ x ∈ scope.names, x.2 = .local → scope.names.lookup x.1 = some .local := fun x hx hl => by
    have : ∀ l : List (Str × NameKind), (l.map (·.1)).Nodup → x ∈ l → l.lookup x.1 = some x.2 := by
      intro l
      induction l with
      | nil => intro _ m; cases m
      | cons y t ih =>
        intro nd m
        obtain ⟨y, ky⟩ := y
        rw [List.map_cons, List.nodup_cons] at nd
        rw [List.lookup_cons]
        rcases List.mem_cons.mp m with q | q
        · subst q; simp
        · cases e : x.1 == y with
          | true => exact absurd (List.mem_map.mpr ⟨x, q, beq_iff_eq.mp e⟩) nd.1
          | false => exact ih nd.2 q
    rw [this scope.names hnd hx, hl]
  refine wpAny_comprehension_free (cl := cl) (e := .ListComp elt [⟨target, iter, ifs, 0⟩] scope pos) rfl hs hclos hkind hnames (wpAny_mono (hi ok A s E r k i) (fun x s₁ p₁ => wpAny_mono p₁ (fun it s₂ p₂ => ?_) fun _ _ x => x) fun _ _ x => x)
  obtain ⟨st, I, fp, wr, wg, Sx, rfl, W, hst, hfp, hwr, hwg⟩ := p₂
  have i₂ := i.ext st.ext
  have k₂ := st.ext.base k
  refine wpAny_newObj_type (wpAny_newFunctionEnv hcell (by intro y hy; simp at hy) (fun h₁ hns₁ hsb₁ => ?_) hkind)
  dsimp only at hns₁ hsb₁ ⊢
  -- the new list and the new namespace
  generalize hH : s₂.heap.push { cls := .type "list", dict := none, data := .seq ([] : List Value).toArray } = H at hns₁ hsb₁ ⊢
  generalize hL : s₂.heap.objs.size = L
  generalize hC : H.objs.size = C at hns₁ hsb₁
  have hCsz : C = L + 1 := by rw [← hC, ← hH, Heap.size_push, hL]
  have hLn : s₂.heap.get? L = none := by rw [← hL]; exact fresh_get
  have hCn : s₂.heap.get? C = none := by
    cases q : s₂.heap.get? C with
    | none => rfl
    | some o => have := Heap.lt_size q; rw [hL, hCsz] at this; exact absurd this (Nat.not_lt.mpr (Nat.le_succ L))
  have hLC : L ≠ C := by rw [hCsz]; exact Nat.ne_of_lt (Nat.lt_succ_self _)
  have old : ∀ b o, s₂.heap.get? b = some o → h₁.get? b = some o := fun b o e => hsb₁.extBut b o (fun q => by rw [q, hCn] at e; cases e) (Heap.get?_push_of_some _ (hH ▸ Heap.get?_push_of_some _ e))
  have hLo : OwnL h₁ L [] := ⟨0, hsb₁.extBut _ _ hLC (Heap.get?_push_of_some _ (hH ▸ hL ▸ Heap.get?_push_size _ rfl))⟩
  generalize hs3 : ({ s₂ with heap := h₁, toks := s₂.toks + ([] : List (Str × Value)).length } : Shared) = s₃
  have hs3' : s₃ = { s₂ with heap := h₁, toks := s₂.toks + ([] : List (Str × Value)).length } := hs3.symm
  have st₃ : Stp G.base s₂ s₃ := by rw [hs3']; exact .heap old
  have hh3 : s₃.heap = h₁ := by rw [hs3']
  show codeAny G.M A (.compStart (.ListComp elt [⟨target, iter, ifs, 0⟩] scope pos) 0 (.ref I) (.ref L) (compEnvC scope cl C env)) (compPost G.M A E use Q (.ref L) C) s₃
  generalize hce' : compEnvC scope cl C env = cenv
  replace hce' := hce'.symm
  have hcloc : cenv.locals = C := by rw [hce']; rfl
  have hccells : cenv.cells = cl := by rw [hce']; rfl
  have CE : CEnv cenv scope := ⟨fun x kd hx hne => by
    rw [hce']
    rcases lookup_relabel (env := env) hx with q | q
    · exact q
    · exact absurd q.1 hne⟩
  have hfrc : ∀ a, FrW cenv a → a = C ∨ FrW env a := fun a w => by
    rcases w with w | ⟨x, w⟩
    · exact .inl (w.trans hcloc)
    · rw [hccells] at w
      exact .inr (.inr ⟨x, (hcl1 _ _ (mem_of_lookup w)).1⟩)
  have hokin : FreshOk (fun b => okO ok σ b ∧ b ≠ L) s₃.heap := fun b e => ⟨(i₂.ext st₃.ext).freshO b e, fun q => by
    have := hLo.some; rw [← hh3, ← q, e] at this; cases this⟩
  have hbase : ∀ a, s₂.heap.get? a = none → G.base.get? a = none := fun a e => by
    cases q : G.base.get? a with
    | none => rfl
    | some o => rw [k₂ a o q] at e; cases e
  have oc := hcap.owned
  have hwrc : ∀ a, Wr cenv σc a → a = C ∨ FrW env a := fun a w => by
    rcases w with w | w
    · exact hfrc a w
    · rw [oc] at w; cases w
  have inv₃ : Inv G.base (fun b => okO ok σ b ∧ b ≠ L) cenv σc s₃.heap := by
    refine ⟨⟨by rw [hce']; exact hkind, ⟨_, by rw [hcloc, hh3]; exact hns₁⟩, fun x c l => ?_, ?_, fun x c l => ?_, by rw [hce']; exact i.frame.glob, by rw [hce']; exact i.frame.blt⟩, fun a w => ?_, hokin, fun x d l => ?_, fun x a es l => absurd l hcap.noOwn, fun a w => (by rw [oc] at w; cases w), (by rw [oc]; exact List.nodup_nil)⟩
    · rw [hccells] at l
      obtain ⟨v, q⟩ := i₂.frame.cells x c (hcl1 _ _ (mem_of_lookup l)).1
      exact ⟨v, st₃.ext.cell q⟩
    · rw [hccells]
      -- different names, different cells
      have : ∀ l : List (Str × Addr), (∀ y c, (y, c) ∈ l → env.cells.lookup y = some c) → (l.map (·.1)).Nodup → l.Pairwise fun x y => x.2 ≠ y.2 := by
        intro l
        induction l with
        | nil => intro _ _; exact List.Pairwise.nil
        | cons q t ih =>
          intro hl nd
          rw [List.map_cons, List.nodup_cons] at nd
          refine List.pairwise_cons.mpr ⟨fun p hp e => nd.1 (List.mem_map.mpr ⟨p, hp, ?_⟩), ih (fun y c m => hl y c (.tail _ m)) nd.2⟩
          exact (cells_inj i.frame.apart (hl q.1 q.2 (.head _)) (e ▸ hl p.1 p.2 (.tail _ hp))).symm
      refine this cl (fun y c m => (hcl1 y c m).1) ?_
      rw [hcl3]
      exact List.pairwise_reverse.mpr ((hnd.sublist (List.filter_sublist.map _)).imp fun q e => q e.symm)
    · rw [hccells] at l
      rw [hcloc]
      intro e
      obtain ⟨v, o, q, _⟩ := i₂.frame.cells x c (hcl1 _ _ (mem_of_lookup l)).1
      rw [e, hCn] at q; cases q
    · rcases hwrc a w with q | q
      · rw [q]; exact hbase C hCn
      · exact i.off a (.inl q)
    · obtain ⟨q1, q2, q3⟩ := hcap.get l
      obtain ⟨v, hv, rp⟩ := i₂.vals x d q1
      refine ⟨v, ?_, rp.ext st₃.ext fun b w z => ⟨⟨w, fun e => by rw [e, hLn] at z; cases z⟩, by rw [oc]; simp⟩⟩
      rcases hv with ⟨kd, _⟩ | ⟨_, c, hc, hv⟩
      · rw [q3] at kd; cases kd
      · refine .inr ⟨?_, c, ?_, st₃.ext.cell hv⟩
        · rw [hce']
          rcases lookup_relabel (env := env) q2 with q | q
          · exact .inr q
          · exact .inl q.2
        · rw [hccells, hcl2 _ (mem_of_lookup q2) rfl]; exact hc
  have loop : codeAny G.M A (.compLoop (.ListComp elt [⟨target, iter, ifs, 0⟩] scope pos) 0 (.ref I) (.ref L) cenv) (compPost G.M A E use Q (.ref L) C) s₃ := by
    have hfpL : ∀ a, fp a → a ≠ L := fun a q e => by have := (hfp a q).1; rw [e, hLn] at this; cases this
    have hfpC : ∀ a, fp a → a ≠ C := fun a q e => by have := (hfp a q).1; rw [e, hCn] at this; cases this
    have hok0 : ∀ a, (okO ok σ a ∧ (s₂.heap.get? a).isSome = true) → okO ok σ a ∧ a ≠ L := fun a q => ⟨q.1, fun e => by have := q.2; rw [e, hLn] at this; cases this⟩
    have hok0C : ∀ a, (okO ok σ a ∧ (s₂.heap.get? a).isSome = true) → a ≠ C := fun a q e => by have := q.2; rw [e, hCn] at this; cases this
    have hwrw : ∀ a, wr a → ¬ Wr cenv σc a := fun a q w => by
      rcases hwrc a w with z | z
      · exact hfpC a (hwr a q).2 z
      · exact (hfp a (hwr a q).2).2 (.inl z)
    have hLw : ¬ Wr cenv σc L := fun w => by
      rcases hwrc L w with z | z
      · exact hLC z
      · rcases z with z | ⟨x, z⟩
        · obtain ⟨m, o, _, _, q, _⟩ := i₂.frame.ns; rw [← z, hLn] at q; cases q
        · obtain ⟨v, o, q, _⟩ := i₂.frame.cells x L z; rw [hLn] at q; cases q
    have hsL : s.heap.get? L = none := st.ext.none hLn
    have hsC : s.heap.get? C = none := st.ext.none hCn
    refine compLoop_any (fun m s' => ∃ j ws, j ≤ ds.length ∧ m = ds.length + 1 - j ∧ Sx j s' ∧ OwnL s'.heap L ws ∧ RepAll (fun b => okO ok σ b ∧ b ≠ L) s'.heap ws (((ds.take j).filter keep).map res) ∧
      Inv G.base (fun b => okO ok σ b ∧ b ≠ L) cenv σc s'.heap ∧ Stp G.base s s' ∧ G.base.StaysIn s'.heap) ?_ (ds.length + 1)
      ⟨0, [], Nat.zero_le _, by omega, W.frame 0 s₂ s₃ (fun _ => False) hst st₃.mv (fun _ _ z => z) (fun _ _ _ z => z), by rw [hh3]; exact hLo, .nil, inv₃, st.trans st₃, st₃.ext.base k₂⟩
    rintro m s' ⟨j, ws, hj, rfl, hSx, hown, hrep, hinv, hstp, hk⟩ E' _
    have hnode : ∀ {P : Addr → Prop} a, P a → IsNode s'.heap a → ¬ wr a := fun a _ nd z => (W.node j s' a hSx z).1 nd
    by_cases hlt : j < ds.length
    · have hd : ds[j]? = some ds[j] := List.getElem?_eq_getElem hlt
      have hdm : ds[j] ∈ ds := List.getElem_mem hlt
      obtain ⟨hass, htest, helt⟩ := hturn cenv CE ds[j] hdm
      refine wpAny_mono (W.item j ds[j] s' E' (fun b => okO ok σ b ∧ b ≠ L) hd hSx hk hok0 hinv.fresh) (fun r' s₄ q => ?_) fun _ _ x => x
      obtain ⟨v, rfl, q⟩ := q
      refine wpAny_mono q (fun _ s₅ q => ?_) fun _ _ x => x
      obtain ⟨rp, hSx₅, mi⟩ := q
      have inv₅ := hinv.mvI mi hwrw (fun a w => (W.node j s' a hSx w).1) fun b w => ⟨i.freshO b (hwr b w).1, hfpL b (hwr b w).2⟩
      have st₅ : Stp G.base s s₅ := (MvI.after (hstp.mv (W := fun _ => False)) mi (fun a w => (hwr a w).1) hwg).stp fun _ z => z.elim
      have own₅ : OwnL s₅.heap L ws := mi.ext.own (fun z => hfpL L (hwr L z).2 rfl) hown
      have rep₅ : RepAll (fun b => okO ok σ b ∧ b ≠ L) s₅.heap ws _ := hrep.extBut mi.ext hnode fun _ q _ => q
      refine wpAny_mono (hass σc _ A s₅ E' v r (st₅.ext.base k) inv₅ oc (rp.weak fun b q => ⟨q, by rw [oc]; simp⟩)) (fun _ s₆ q => ?_) fun _ _ x => x
      obtain ⟨inv₆, mv₆, ow₆⟩ := q
      rw [hcloc] at mv₆
      have st₆ : Stp G.base s s₆ := ((st₅.mv (W := fun _ => False)).trans (mv₆) fun p w => .inr (w ▸ hsC)).stp fun _ z => z.elim
      have own₆ : OwnL s₆.heap L ws := mv₆.ext.own hLC own₅
      have rep₆ : RepAll (fun b => okO ok σ b ∧ b ≠ L) s₆.heap ws _ := rep₅.extBut mv₆.ext (fun a _ nd z => node_not_frame inv₅.frame nd (.inl (z.trans hcloc.symm))) fun _ q _ => q
      have hSx₆ : Sx (j + 1) s₆ := W.frame (j + 1) s₅ s₆ _ hSx₅ mv₆ (fun a q z => hfpC a q z) (fun a q _ z => hok0C a q z)
      refine wpAny_mono (htest _ A s₆ E' r (st₆.ext.base k) inv₆) (fun ok' s₇ q => ?_) fun _ _ x => x
      obtain ⟨st₇, rfl⟩ := q
      have inv₇ := inv₆.ext st₇.ext
      have own₇ := st₇.ext.own own₆
      have rep₇ := rep₆.stp st₇
      have hSx₇ : Sx (j + 1) s₇ := W.frame (j + 1) s₆ s₇ (fun _ => False) hSx₆ st₇.mv (fun _ _ z => z) (fun _ _ _ z => z)
      have st₇' := st₆.trans st₇
      have hns : (owned σc).Nodup := by rw [oc]; exact List.nodup_nil
      have htake : ds.take (j + 1) = ds.take j ++ [ds[j]] := by rw [List.take_add_one, hd]; rfl
      split
      · rename_i hkp
        refine wpAny_mono (helt hkp _ A s₇ E' r (st₇'.ext.base k) inv₇) (fun v' s₈ q => ?_) fun _ _ x => x
        obtain ⟨st₈, rp₈⟩ := q
        have st₈' := st₇'.trans st₈
        obtain ⟨nn, hLe⟩ := st₈.ext.own own₇
        have rep₈ := rep₇.stp st₈
        have hsz : ws.length ≤ ds.length := by
          rw [rep₈.length, List.length_map]
          exact Nat.le_trans (List.length_filter_le _ _) (by rw [List.length_take]; exact Nat.min_le_right _ _)
        refine append_at (hsz := by rw [List.size_toArray]; omega) hLe fun h' hs' hl' => ?_
        have mv₉ : Mv G.base (· = L) s₈ { s₈ with heap := h' } := ⟨fun b o w e => ⟨o, (hs'.2 b w).trans e, rfl, rfl, fun _ => rfl⟩, fun b e => (by
          by_cases hb : b = L
          · have e' : h'.get? b = none := e
            rw [hb, hl'] at e'; cases e'
          · rw [← hs'.2 b hb]; exact e), rfl, .refl⟩
        have st₉ : Stp G.base s { s₈ with heap := h' } := ((st₈'.mv (W := fun _ => False)).trans mv₉ fun p w => .inr (w ▸ hsL)).stp fun _ z => z.elim
        have hSx₈ : Sx (j + 1) s₈ := W.frame (j + 1) s₇ s₈ (fun _ => False) hSx₇ st₈.mv (fun _ _ z => z) (fun _ _ _ z => z)
        refine ⟨ds.length + 1 - (j + 1), by omega, j + 1, ws ++ [v'], hlt, rfl, W.frame (j + 1) s₈ _ _ hSx₈ mv₉ (fun a q z => hfpL a q z) (fun a q _ z => (hok0 a q).2 z), ⟨nn + 1, by rw [hl']; simp⟩, ?_, ?_, st₉, st₉.ext.base k⟩
        · rw [htake, List.filter_append, List.map_append]
          have e1 : [ds[j]].filter keep = [ds[j]] := by simp [hkp]
          rw [e1]
          exact (rep₈.extBut mv₉.ext (fun a q _ z => q.2 z) fun _ q _ => q).append (.cons ((rp₈.weak fun b q => q.1).extBut mv₉.ext (fun a q _ z => q.2 z) fun _ q _ => q) .nil)
        · have inv₈ := (inv₇.ext st₈.ext).sub (hsub _ hdm) hns
          exact inv₈.mvW mv₉ (fun a z w => hLw (z ▸ w)) (fun a z o _ => o.1.2 z)
      · rename_i hkp
        refine ⟨ds.length + 1 - (j + 1), by omega, j + 1, ws, hlt, rfl, hSx₇, own₇, ?_, inv₇.sub (hsub _ hdm) hns, st₇', st₇'.ext.base k⟩
        rw [htake, List.filter_append, List.map_append]
        have e1 : [ds[j]].filter keep = [] := by simp [hkp]
        rw [e1]; simpa using rep₇
    · have hjl : j = ds.length := by omega
      subst hjl
      refine wpAny_mono (W.done s' _ hSx hk) (fun r' s₄ q => ?_) fun _ _ x => x
      obtain ⟨rfl, mi⟩ := q
      have inv₄ := hinv.mvI mi hwrw (fun a w => (W.node _ s' a hSx w).1) fun b w => ⟨i.freshO b (hwr b w).1, hfpL b (hwr b w).2⟩
      have st₄ : Stp G.base s s₄ := (MvI.after (hstp.mv (W := fun _ => False)) mi (fun a w => (hwr a w).1) hwg).stp fun _ z => z.elim
      obtain ⟨mm, hmm⟩ := inv₄.frame.ns
      rw [hcloc] at hmm
      rw [List.take_length] at hrep
      exact K L C ws s₄ mm st₄ hsL hsC hLC (mi.ext.own (fun z => hfpL L (hwr L z).2 rfl) hown) (hrep.extBut mi.ext hnode fun _ q _ => q) hmm
  refine codeAny_compStart_list loop (W.self 0 s₃ _ _ (W.frame 0 s₂ s₃ (fun _ => False) hst st₃.mv (fun _ _ z => z) (fun _ _ _ z => z)) loop)

end
end Mine

end
section
open PySem PySem.W PyProof.Rows PySem.Calls
set_option maxRecDepth 100000
namespace Mine

section
variable {G : Gr} {n : Nat} {env : Env} {σ : St} {sc : Scope}

theorem ns_not_node {h : Heap} {a : Addr} {m : Str → Option Value} (n : h.Ns a m) : ¬ IsNode h a := fun q => by
  obtain ⟨o, es, ep, q1, d, _⟩ := n
  cases q with
  | list l => obtain ⟨o', q', _, k, d'⟩ := l; rw [q1] at q'; cases q'; rw [d] at d'; cases d'
  | tup l => obtain ⟨o', q', _, k, d'⟩ := l; rw [q1] at q'; cases q'; rw [d] at d'; cases d'
  | slice q' _ d' => rw [q1] at q'; cases q'; rw [d] at d'; cases d'
  | rng q' => unfold IsRange at q'; rw [q1] at q'; cases q'; cases d

theorem sameBut_ext {base : Heap} {C : Addr} {h h' : Heap} (hs : Heap.SameBut C h h') : ExtBut base (· = C) h h' := fun b o w e => ⟨o, (hs.2 b w).trans e, rfl, rfl, fun _ => rfl⟩

theorem Stp.forget {base : Heap} {C : Addr} {s s₁ : Shared} {h' : Heap} (st : Stp base s s₁) (hC : s.heap.get? C = none) (hs : Heap.SameBut C s₁.heap h') : Stp base s { s₁ with heap := h' } := by
  refine ⟨fun b o e => ?_, st.os, st.gens⟩
  obtain ⟨o', e', c', d', k'⟩ := st.ext b o e
  have hb : b ≠ C := fun q => by rw [q, hC] at e; cases e
  exact ⟨o', (hs.2 b hb).trans e', c', d', k'⟩

theorem Inv.butW {base : Heap} {ok : Addr → Prop} {W : Addr → Prop} {h h' : Heap} (i : Inv base ok env σ h) (m : ExtBut base W h h') (fr : FreshOk ok h') (hf : ∀ a, W a → ¬ Wr env σ a) (hn : ∀ a, W a → okO ok σ a → ¬ IsNode h a) : Inv base ok env σ h' := by
  have nf : ∀ a, okO ok σ a → IsNode h a → ¬ W a := fun a o q z => hn a z o q
  have hh : ∀ y v, Holds env h y v → Holds env h' y v := fun y v q => by
    rcases q with ⟨k, mm, hns, r⟩ | ⟨k, c, hc, r⟩
    · obtain ⟨o, es, ep, e, d, rr⟩ := hns
      obtain ⟨o', e', _, d', _⟩ := m _ o (fun z => hf _ z (.inl (.inl rfl))) e
      exact .inl ⟨k, mm, ⟨o', es, ep, e', d'.trans d, rr⟩, r⟩
    · obtain ⟨o, e, d⟩ := r
      obtain ⟨o', e', _, d', _⟩ := m _ o (fun z => hf _ z (.inl (.inr ⟨y, hc⟩))) e
      exact .inr ⟨k, c, hc, o', e', d'.trans d⟩
  refine ⟨⟨i.frame.kind, ?_, fun y c q => ?_, i.frame.apart, i.frame.away, i.frame.glob, i.frame.blt⟩, i.off, fr, fun y d q => ?_, fun y b es q => ?_, fun b w => ?_, i.once⟩
  · obtain ⟨mm, o, es, ep, e, d, rr⟩ := i.frame.ns
    obtain ⟨o', e', _, d', _⟩ := m _ o (fun z => hf _ z (.inl (.inl rfl))) e
    exact ⟨mm, o', es, ep, e', d'.trans d, rr⟩
  · obtain ⟨v, o, e, d⟩ := i.frame.cells y c q
    obtain ⟨o', e', _, d', _⟩ := m _ o (fun z => hf _ z (.inl (.inr ⟨y, q⟩))) e
    exact ⟨v, o', e', d'.trans d⟩
  · obtain ⟨u, p, r⟩ := i.vals y d q
    exact ⟨u, hh y u p, r.extBut m nf fun _ w _ => w⟩
  · obtain ⟨p, o, vs, lv, rs⟩ := i.owns y b es q
    exact ⟨hh y _ p, o, vs, m.own (fun z => hf b z (.inr (owned_of_lookup q))) lv, rs.extBut m nf fun _ w _ => w⟩
  · obtain ⟨vs, lv⟩ := i.there b w
    exact ⟨vs, m.own (fun z => hf b z (.inr w)) lv⟩

/-- what a comprehension gives -/
structure CompOk (G : Gr) (n : Nat) (env : Env) (σ : St) (sc : Scope) (elt target iter : Expr) (ifs : List Expr) (scope : Scope) (out : List D) : Prop where
  go : ∀ {pos ipos : Pos} {use : Option (Value → Sem Unit)} {Q : Value → Shared → Prop} {ok : Addr → Prop} {A : Around} {s : Shared} {E : Value → Shared → Prop}, Room n A → G.base.StaysIn s.heap → Inv G.base ok env σ s.heap →
    (∀ L C ws s' m, Stp G.base s s' → s.heap.get? L = none → s.heap.get? C = none → L ≠ C → OwnL s'.heap L ws → RepAll (fun b => okO ok σ b ∧ b ≠ L) s'.heap ws out → s'.heap.Ns C m → compPost G.M A E use Q (.ref L) C (.ok .next) s') →
    wpAny G.M A (comprehension (.ListComp elt [⟨target, iter, ifs, 0⟩] scope pos) scope env ipos (newList []) false (eval iter env) use) Q E s

theorem CompOk.mk' {elt target iter : Expr} {ifs : List Expr} {scope : Scope} {ds : List D} {σc : St} {f : D → St → St} {keep : D → Bool} {res : D → D} {out : List D}
    (FE : FEnv env sc) (hcap : Cap env σ scope σc) (hi : EvI G n env σ iter target ds) (hsub : ∀ d ∈ ds, Sub σc (f d σc))
    (hturn : ∀ cenv, CEnv cenv scope → ∀ d ∈ ds, AssC G n cenv target d (f d) ∧ Tests G n cenv (f d σc) ifs (keep d) ∧ (keep d = true → Ev G n cenv (f d σc) elt (res d)))
    (hz : ds.length < sizeLine) (ho : (ds.filter keep).map res = out)
    (hfree : (scope.names.all fun p => p.2 != .free || sc.names.lookup p.1 == some .cell) = true := by decide) (hnd : (scope.names.map (·.1)).Nodup := by decide) (hcell : ∀ y ∈ scope.names, y.2 ≠ .cell := by decide) (hkind : scope.kind = .function := by rfl)
    (hs : ∀ x, foldedSetIterable iter env x = pure x := by intro _; rfl) : CompOk G n env σ sc elt target iter ifs scope out :=
  ⟨fun r k i K => comp_core FE hfree hnd hcell hkind hcap hi hsub hturn hz hs r k i (by rw [ho]; exact K)⟩

theorem EvF.comp {elt target iter : Expr} {ifs : List Expr} {scope : Scope} {pos : Pos} {out : List D} (h : CompOk G n env σ sc elt target iter ifs scope out) :
    EvF G n env σ (.ListComp elt [⟨target, iter, ifs, 0⟩] scope pos) out := fun ok A s E r k i => by
  rw [eval_ListComp]
  refine h.go (use := none) r k i fun L C ws s' m st hL hC hLC l rs hn => ⟨m, hn, fun h' hs => ⟨st.forget hC hs, L, ws, rfl, hL, ?_, ?_⟩⟩
  · exact (sameBut_ext (base := G.base) hs).own hLC l
  · exact rs.extBut (sameBut_ext (base := G.base) hs) (fun a _ nd e => ns_not_node hn (e ▸ nd)) fun _ q _ => q

/-- x = [.. for ..], the store under way while the loop's frame goes -/
theorem Ex1.assignComp {x : Str} {elt target iter : Expr} {ifs : List Expr} {scope : Scope} {p pos spos : Pos} {out : List D} (h : CompOk G n env σ sc elt target iter ifs scope out) (hx : Storable env x)
    (hs : swapsWith (.ListComp elt [⟨target, iter, ifs, 0⟩] scope pos) (some (.Name x p)) spos.line env = pure true) :
    Ex1 G n env σ (.Assign [.Name x p] (.ListComp elt [⟨target, iter, ifs, 0⟩] scope pos) spos) fun fl σ' => fl = .next ∧ ∃ a, σ' = setS x (.own a out) σ := fun ok A s E r k i => by
  rw [exec_Assign_Name_used _ _ _ _ hs]
  refine wpAny_bind (wpAny_standAt (wpAny_bind ?_))
  show wpAny _ A (do let _ ← comprehension (.ListComp elt [⟨target, iter, ifs, 0⟩] scope pos) scope env _ (newList []) false (eval iter env) (some (PySem.assign (.Name x p) env))) _ _ s
  refine wpAny_bind (wpAny_mono (h.go (use := some (PySem.assign (.Name x p) env)) (Q := fun _ s' => After G env σ ok s (fun fl σ' => fl = .next ∧ ∃ a, σ' = setS x (.own a out) σ) .next s') r k i fun L C ws s' m st hL hC hLC l rs hn => ?_)
    (fun _ s' hq => wpAny_pure (wpAny_pure hq)) fun _ _ e => e)
  show wpAny _ A (PySem.assign (.Name x p) env (.ref L)) _ _ _
  refine wpAny_assign_Name ?_
  have i₁ := i.ext st.ext
  have hCF : ¬ FrW env C := fun w => by
    rcases w with z | ⟨x, z⟩
    · obtain ⟨m, o, _, _, q, _⟩ := i.frame.ns; rw [← z, hC] at q; cases q
    · obtain ⟨v, o, q, _⟩ := i.frame.cells x C z; rw [hC] at q; cases q
  refine wpAny_store (base := G.base) i₁.frame hx fun s₂ hv ho F mv => ?_
  have hn₂ : s₂.heap.Ns C m := by
    obtain ⟨o, es, ep, e, d, rr⟩ := hn
    obtain ⟨o', e', _, d', _⟩ := mv.ext _ o hCF e
    exact ⟨o', es, ep, e', d'.trans d, rr⟩
  refine ⟨m, hn₂, fun h' hs' => ?_⟩
  obtain ⟨i', m', k', o'⟩ := After.own k i st hL l rs hv ho F mv
  have fr : FreshOk ok h' := fun b e => by
    by_cases hb : b = C
    · rw [hb]; exact i.fresh C hC
    · exact i'.fresh b ((hs'.2 b hb).symm.trans e)
  have hCo : ¬ Wr env (setS x (.own L out) σ) C := fun w => by
    rcases w with w | w
    · exact hCF w
    · rcases o' C w with w | w
      · obtain ⟨vs, q⟩ := i.there C w; have := q.some; rw [hC] at this; cases this
      · exact hLC w.symm
  have mm : Mv G.base (Wr env σ) s { s₂ with heap := h' } := ⟨fun b o w e => by
      obtain ⟨o', e', c', d', k'⟩ := m'.ext b o w e
      have hb : b ≠ C := fun q => by rw [q, hC] at e; cases e
      exact ⟨o', (hs'.2 b hb).trans e', c', d', k'⟩, fun b e => (by
      by_cases hb : b = C
      · rw [hb]; exact hC
      · exact m'.dom b ((hs'.2 b hb).symm.trans e)), m'.os, m'.gens⟩
  exact ⟨.next, _, ⟨rfl, L, rfl⟩, trivial, i'.butW (sameBut_ext hs') fr (fun a e => e ▸ hCo) (fun a e _ => e ▸ ns_not_node hn₂), mm, mm.base k i.off, fun b w => (o' b w).imp id fun w => by rw [w]; exact hL⟩

/-- an item of a list of the frame's own -/
theorem Ev.itemOwn {x : Str} {p q : Pos} {ie : Expr} {a : Addr} {ds : List D} {j : Int} {d : D} (l : σ.lookup x = some (.own a ds)) (hi : Ev G n env σ ie (.int j))
    (hj : (0 ≤ j ∧ ds[j.toNat]? = some d ∧ ds.length < 2 ^ 62) ∨ (j < 0 ∧ -(ds.length : Int) ≤ j ∧ -(2 ^ 62) ≤ j ∧ ds[(j + ds.length).toNat]? = some d))
    (hs : ∀ a b, ∃ ops, subscripted ie false a b = operate ops (getItem a b) := by intro a b; first | exact ⟨[a, b], rfl⟩ | exact ⟨[b, a], rfl⟩)
    (hd : (x == ("__debug__" : Str)) = false := by decide) (hc : (x == ("__classdict__" : Str)) = false := by decide) : Ev G n env σ (.Subscript (.Name x p) ie q) d := fun ok A s E r k i => by
  obtain ⟨hv, o, vs, lv, rs⟩ := i.owns x a ds l
  refine Subscript_ (wpAny_holds i.frame.kind hv ?_ hd hc)
  refine wpAny_mono (hi ok A s E r k i) (fun vi s₁ p₁ => ?_) fun _ _ x => x
  obtain ⟨st, rp⟩ := p₁
  cases rp
  obtain ⟨ops, hs⟩ := hs (.ref a) (.int j _)
  have lv₁ := st.ext.own lv
  have rs₁ := rs.stp st
  refine tail_any lv₁.list.typeIs slot_list_getitem.lookup ?_ hs
  rcases hj with ⟨h0, h1, h2⟩ | ⟨h0, h1, h2, h3⟩
  · obtain ⟨v, hv, rv⟩ := rs₁.get h1
    have : j.toNat < ds.length := by
      obtain ⟨w, _⟩ := List.getElem?_eq_some_iff.mp h1; exact w
    exact wpAny_getItem_list lv₁.list h0 (by omega) (by simpa using hv) ⟨st, rv⟩
  · obtain ⟨v, hv, rv⟩ := rs₁.get h3
    exact wpAny_getItem_list_neg lv₁.list h0 (by rw [List.size_toArray, rs₁.length]; exact h1) (by omega) (by rw [List.size_toArray, rs₁.length]; simpa using hv) ⟨st, rv⟩

theorem RepAll.set {ok : Addr → Prop} {h : Heap} : ∀ {vs : List Value} {ds : List D} {j : Nat} {v : Value} {d : D}, RepAll ok h vs ds → Rep ok h v d → RepAll ok h (vs.set j v) (ds.set j d)
  | _, _, _, _, _, .nil, _ => .nil
  | _, _, 0, _, _, .cons _ t, r => .cons r t
  | _, _, j + 1, _, _, .cons a t, r => .cons a (t.set r)

/-- x[i] = e on a list of the frame's own -/
theorem Ex1.setItem {x : Str} {p q pos : Pos} {ie e : Expr} {a : Addr} {ds : List D} {j : Int} {d : D} (l : σ.lookup x = some (.own a ds)) (h : Ev G n env σ e d) (hi : Ev G n env σ ie (.int j)) (k' : Nat)
    (hj : (0 ≤ j ∧ j.toNat = k' ∧ k' < ds.length ∧ ds.length < 2 ^ 62) ∨ (j < 0 ∧ -(ds.length : Int) ≤ j ∧ -(2 ^ 62) ≤ j ∧ (j + ds.length).toNat = k'))
    (hd : (x == ("__debug__" : Str)) = false := by decide) (hc : (x == ("__classdict__" : Str)) = false := by decide)
    (hs : swapsWith e (some (.Subscript (.Name x p) ie q)) pos.line env = pure false := by rfl) :
    Ex1 G n env σ (.Assign [.Subscript (.Name x p) ie q] e pos) fun fl σ' => fl = .next ∧ σ' = setS x (.own a (ds.set k' d)) σ := fun ok A s E r k i => by
  refine wpAny_Assign_Subscript (wpAny_mono (h ok A s E r k i) (fun v s₁ p₁ => ?_) fun _ _ x => x) hs
  obtain ⟨st₁, rv⟩ := p₁
  have i₁ := i.ext st₁.ext
  obtain ⟨hv, _⟩ := i₁.owns x a ds l
  refine wpAny_holds i₁.frame.kind hv ?_ hd hc
  refine wpAny_mono (hi ok A s₁ E r (st₁.ext.base k) i₁) (fun vi s₂ p₂ => ?_) fun _ _ x => x
  obtain ⟨st₂, rp⟩ := p₂
  cases rp
  have i₂ := i₁.ext st₂.ext
  obtain ⟨hv₂, o, vs, ⟨m, hm⟩, rs⟩ := i₂.owns x a ds l
  have st := st₁.trans st₂
  have fin : ∀ h', h' = s₂.heap.update a (Obj.mapSeq (·.setIfInBounds k' v)) → After G env σ ok s (fun fl σ' => fl = .next ∧ σ' = setS x (.own a (ds.set k' d)) σ) .next { s₂ with heap := h' } := by
    rintro h' rfl
    have hl : OwnL (s₂.heap.update a (Obj.mapSeq (·.setIfInBounds k' v))) a (vs.set k' v) := by
      have q := PySem.IsL.update hm (fun x => x.setIfInBounds k' v)
      refine ⟨m, q.trans ?_⟩
      have e1 : vs.toArray.setIfInBounds k' v = (vs.set k' v).toArray := by apply Array.toList_inj.mp; simp
      rw [e1]; simp
    obtain ⟨i', m'⟩ := i₂.upd l (Heap.SameBut.update ..) hl (rs.set (rv.stp st₂))
    have mv := (st.mv (W := Wr env σ)).trans (m' s₂.toks) fun _ w => .inl w
    exact ⟨.next, _, ⟨rfl, rfl⟩, trivial, i', mv, mv.base k i.off, fun b w => .inl (owned_setS_same (es := ds.set k' d) l ▸ w)⟩
  have hlen := rs.length
  rcases hj with ⟨h0, rfl, h2, h3⟩ | ⟨h0, h1, h2, rfl⟩
  · exact ki_setAt hm h0 (by omega) (by rw [List.size_toArray, hlen]; omega) (fin _ rfl)
  · refine ki_setBack hm h0 (by rw [List.size_toArray, hlen]; exact h1) (by omega) ?_
    rw [List.size_toArray, hlen]
    exact fin _ rfl

end
end Mine

end
section
open PySem PySem.W PyProof.Rows PySem.Calls
set_option maxRecDepth 100000
namespace Mine

theorem own_inj {x y : Str} {a : Addr} {es fs : List D} : ∀ {σ : St}, (owned σ).Nodup → σ.lookup x = some (.own a es) → σ.lookup y = some (.own a fs) → x = y
  | (z, t) :: r, nd, hx, hy => by
    rw [List.lookup_cons] at hx hy
    rw [owned_cons] at nd
    cases ex : x == z with
    | true =>
      rw [ex] at hx; cases hx
      cases ey : y == z with
      | true => rw [beq_iff_eq.mp ex, beq_iff_eq.mp ey]
      | false =>
        rw [ey] at hy
        exact absurd (owned_of_lookup hy) (List.nodup_cons.mp nd).1
    | false =>
      rw [ex] at hx
      cases ey : y == z with
      | true =>
        rw [ey] at hy; cases hy
        exact absurd (owned_of_lookup hx) (List.nodup_cons.mp nd).1
      | false =>
        rw [ey] at hy
        exact own_inj (List.nodup_append.mp nd).2.1 hx hy

theorem owned_mem : ∀ {σ : St} {a : Addr}, a ∈ owned σ → ∃ x es, (x, Slot.own a es) ∈ σ
  | (z, t) :: r, a, h => by
    rw [owned_cons] at h
    rcases List.mem_append.mp h with h | h
    · cases t with
      | val d => cases h
      | own b es => rw [List.mem_singleton.mp h]; exact ⟨z, es, .head _⟩
    · obtain ⟨x, es, q⟩ := owned_mem h
      exact ⟨x, es, .tail _ q⟩
theorem Sub.mem {σ₀ σ : St} (h : Sub σ₀ σ) : ∀ {x s}, (x, s) ∈ σ₀ → σ.lookup x = some s := by
  induction σ₀ with
  | nil => intro _ _ q; cases q
  | cons y r ih =>
    intro x s q
    rcases List.mem_cons.mp q with q | q
    · cases q; exact h.1
    · exact ih h.2 q
theorem Sub.nodup {σ : St} (nd : (Mine.owned σ).Nodup) : ∀ {σ₀ : St}, (σ₀.map (·.1)).Nodup → Sub σ₀ σ → (Mine.owned σ₀).Nodup
  | [], _, _ => List.nodup_nil
  | (x, t) :: r, hn, hs => by
    rw [List.map_cons, List.nodup_cons] at hn
    have ih := Sub.nodup nd hn.2 hs.2
    cases t with
    | val d => exact ih
    | own a es =>
      refine List.nodup_cons.mpr ⟨fun q => ?_, ih⟩
      obtain ⟨y, fs, q⟩ := owned_mem q
      have : x = y := own_inj nd hs.1 (Sub.mem hs.2 q)
      exact hn.1 (List.mem_map.mpr ⟨_, q, this.symm⟩)

section
variable {G : Gr} {n : Nat} {env : Env} {σ : St} {sc : Scope}

theorem Ex.only {σ₀ : St} {body : List Stmt} {Q : Fl → St → Prop} (hs : Sub σ₀ σ) (h : Ex G n env σ₀ body Q) (hn : (σ₀.map (·.1)).Nodup := by simp; try decide) : Ex G n env σ body Q := fun ok A s E r k i =>
  wpAny_mono (h ok A s E r k (i.sub hs (Sub.nodup i.once hn hs))) (fun _ _ a => a.sub hs.owned) fun _ _ x => x
theorem Ex1.only {σ₀ : St} {st : Stmt} {Q : Fl → St → Prop} (hs : Sub σ₀ σ) (h : Ex1 G n env σ₀ st Q) (hn : (σ₀.map (·.1)).Nodup := by simp; try decide) : Ex1 G n env σ st Q := fun ok A s E r k i =>
  wpAny_mono (h ok A s E r k (i.sub hs (Sub.nodup i.once hn hs))) (fun _ _ a => a.sub hs.owned) fun _ _ x => x
theorem Ex.post {body : List Stmt} {Q Q' : Fl → St → Prop} (h : Ex G n env σ body Q) (hq : ∀ fl σ', Q fl σ' → Q' fl σ' ∨ ∃ σ₀, Sub σ₀ σ' ∧ (σ₀.map (·.1)).Nodup ∧ Q' fl σ₀) : Ex G n env σ body Q' := fun ok A s E r k i =>
  wpAny_mono (h ok A s E r k i) (fun f s' a => by
    obtain ⟨fl, σ', q, fi, i', m, k', o⟩ := a
    rcases hq fl σ' q with q' | ⟨σ₀, hs, hn, q'⟩
    · exact ⟨fl, σ', q', fi, i', m, k', o⟩
    exact ⟨fl, σ₀, q', fi, i'.sub hs (Sub.nodup i'.once hn hs), m, k', fun b w => o b (hs.owned b w)⟩) fun _ _ x => x

theorem Sub.refl' : ∀ {σ₀ : St}, (σ₀.map (·.1)).Nodup → Sub σ₀ σ₀ := by
  have go : ∀ {r σ₀ : St}, (σ₀.map (·.1)).Nodup → (∀ p ∈ r, p ∈ σ₀) → Sub r σ₀ := by
    intro r
    induction r with
    | nil => intro _ _ _; trivial
    | cons y r ih =>
      intro σ₀ nd h
      refine ⟨?_, ih nd fun p hp => h p (.tail _ hp)⟩
      have hm := h y (.head _)
      clear ih h
      induction σ₀ with
      | nil => cases hm
      | cons z t ih =>
        rw [List.map_cons, List.nodup_cons] at nd
        obtain ⟨z, s⟩ := z
        rw [List.lookup_cons]
        rcases List.mem_cons.mp hm with e | e
        · cases e; simp
        · cases q : y.1 == z with
          | true => exact absurd (List.mem_map.mpr ⟨y, e, beq_iff_eq.mp q⟩) nd.1
          | false => exact ih nd.2 e
  intro σ₀ nd
  exact go nd fun _ h => h

/-- what a turn of a loop leaves -/
def Turn {ι : Type} (S : ι → St) (K : St → Prop) (Q : Fl → St → Prop) (fl : Fl) (σ₂ : St) : Prop := match fl with
  | .next | .cont => ∃ p, Sub (S p) σ₂
  | .brk => K σ₂
  | .ret r => Q (.ret r) σ₂

/-- the same, with a word on the state's numbers -/
def TurnJ {ι : Type} (S : ι → St) (J : ι → Prop) (K : St → Prop) (Q : Fl → St → Prop) (fl : Fl) (σ₂ : St) : Prop := match fl with
  | .next | .cont => ∃ p, J p ∧ Sub (S p) σ₂
  | .brk => K σ₂
  | .ret r => Q (.ret r) σ₂

theorem Ex.forJ {ι : Type} {target iter : Expr} {body rest : List Stmt} {pos : Pos} {ds : List D} {f : D → St → St} {Q : Fl → St → Prop} (S : Nat → ι → St) (J : Nat → ι → Prop) (p₀ : ι) (hJ : J 0 p₀) (h0 : Sub (S 0 p₀) σ) (nd : ∀ i p, ((S i p).map (·.1)).Nodup)
    (hi : EvI G n env (S 0 p₀) iter target ds) (ht : ∀ d ∈ ds, AssD G n env target d (f d))
    (turn : ∀ i d p, ds[i]? = some d → J i p → Ex G n env (f d (S i p)) body (TurnJ (S (i + 1)) (J (i + 1)) (fun σ₂ => Ex G n env σ₂ rest Q) Q))
    (done : ∀ p, J ds.length p → Ex G n env (S ds.length p) rest Q) (hs : ∀ x, foldedSetIterable iter env x = pure x := by intro _; rfl) : Ex G n env σ (.For target iter body [] pos :: rest) Q := by
  refine Ex.cons (Ex1.only h0 ?_ (nd _ _))
  refine Ex1.for (f := f) hi ht (fun i σ₁ => ∃ p, J i p ∧ σ₁ = S i p) ⟨p₀, hJ, rfl⟩ (fun i d σ₁ hd hJ => ?_) (fun σ₁ hJ => ?_) hs
  · obtain ⟨p, hj, rfl⟩ := hJ
    refine (turn i d p hd hj).post fun fl σ' h => ?_
    cases fl with
    | next => obtain ⟨p', hj', hp⟩ := h; exact .inr ⟨_, hp, nd _ _, p', hj', rfl⟩
    | cont => obtain ⟨p', hj', hp⟩ := h; exact .inr ⟨_, hp, nd _ _, p', hj', rfl⟩
    | brk => exact .inl h
    | ret r => exact .inl h
  · obtain ⟨p, hj, rfl⟩ := hJ
    exact done p hj

theorem Ex.forS {ι : Type} {target iter : Expr} {body rest : List Stmt} {pos : Pos} {ds : List D} {f : D → St → St} {Q : Fl → St → Prop} (S : Nat → ι → St) (p₀ : ι) (h0 : Sub (S 0 p₀) σ) (nd : ∀ i p, ((S i p).map (·.1)).Nodup)
    (hi : EvI G n env (S 0 p₀) iter target ds) (ht : ∀ d ∈ ds, AssD G n env target d (f d))
    (turn : ∀ i d p, ds[i]? = some d → Ex G n env (f d (S i p)) body (Turn (S (i + 1)) (fun σ₂ => Ex G n env σ₂ rest Q) Q))
    (done : ∀ p, Ex G n env (S ds.length p) rest Q) (hs : ∀ x, foldedSetIterable iter env x = pure x := by intro _; rfl) : Ex G n env σ (.For target iter body [] pos :: rest) Q := by
  refine Ex.forJ S (fun _ _ => True) p₀ trivial h0 nd hi ht (fun i d p hd _ => (turn i d p hd).mono fun fl σ' h => ?_) (fun p _ => done p) hs
  cases fl with
  | next => obtain ⟨p, h⟩ := h; exact ⟨p, trivial, h⟩
  | cont => obtain ⟨p, h⟩ := h; exact ⟨p, trivial, h⟩
  | brk => exact h
  | ret r => exact h

end
end Mine

end
section
open PySem PySem.W PyProof.Rows PySem.Calls
set_option maxRecDepth 100000
namespace Mine

section
variable {G : Gr} {n : Nat} {env : Env} {σ : St} {sc : Scope}

theorem fn_ev {d : DefRec} {a : Addr} {p : Pos} (F : FnAt G d a) (hk : env.kindOf d.name = some .globalImplicit) (hd : (d.name == ("__debug__" : Str)) = false := by decide) : Ev G n env σ (.Name d.name p) (.raw (.ref a)) :=
  .global hk F.name (fun _ _ => .raw _) hd
theorem FnAt.callee {d : DefRec} {a : Addr} (F : FnAt G d a) : Callee G (.ref a) := by
  obtain ⟨o, pm, code, doc, h1, h2, _⟩ := F.obj
  exact .fn h1 h2

theorem CallD.fn1 {d : DefRec} {a : Addr} {d1 r : D} {x : Str} (F : FnAt G d a) (h : ∀ env, FEnv env d.scope → Ex G n env [(x, .val d1)] d.body fun fl _ => fl = .ret r)
    (hx : d.params.args.map (·.arg) = [x] := by rfl) (hb : ∀ pm code doc v, bindArgs (docDef d.name d.params d.body d.scope pm code doc) ⟨[v], []⟩ = pure [(x, v)] := by intros; rfl)
    (hkind : (d.params.args.all fun y => d.scope.names.lookup y.arg == some .local || d.scope.names.lookup y.arg == some .cell) = true := by rfl)
    (hco : d.scope.isCoroutine = false := by rfl) (hgen : d.scope.isGenerator = false := by rfl) (hk : d.scope.kind = .function := by rfl) : CallD G (n + 1) (.ref a) [d1] r := by
  refine CallD.def F (by rw [← List.length_map (f := fun y : Arg => y.arg), hx]; rfl) (fun pm code doc vs hl => ?_) hkind (by rw [hx]; simp) (fun env FE => ?_) hco hgen hk
  · rw [hx]
    match vs, hl with
    | [v], _ => exact hb pm code doc v
  · rw [hx]; exact h env FE
theorem CallD.fn2 {d : DefRec} {a : Addr} {d1 d2 r : D} {x y : Str} (F : FnAt G d a) (h : ∀ env, FEnv env d.scope → Ex G n env [(x, .val d1), (y, .val d2)] d.body fun fl _ => fl = .ret r)
    (hx : d.params.args.map (·.arg) = [x, y] := by rfl) (hxy : x ≠ y := by decide) (hb : ∀ pm code doc v w, bindArgs (docDef d.name d.params d.body d.scope pm code doc) ⟨[v, w], []⟩ = pure [(x, v), (y, w)] := by intros; rfl)
    (hkind : (d.params.args.all fun y => d.scope.names.lookup y.arg == some .local || d.scope.names.lookup y.arg == some .cell) = true := by rfl)
    (hco : d.scope.isCoroutine = false := by rfl) (hgen : d.scope.isGenerator = false := by rfl) (hk : d.scope.kind = .function := by rfl) : CallD G (n + 1) (.ref a) [d1, d2] r := by
  refine CallD.def F (by rw [← List.length_map (f := fun y : Arg => y.arg), hx]; rfl) (fun pm code doc vs hl => ?_) hkind (by rw [hx]; simp [hxy]) (fun env FE => ?_) hco hgen hk
  · rw [hx]
    match vs, hl with
    | [v, w], _ => exact hb pm code doc v w
  · rw [hx]; exact h env FE

/-- while -/
theorem Ex.whileS {ι : Type} {test : Expr} {body rest : List Stmt} {pos : Pos} {Q : Fl → St → Prop} (S : ι → St) (m : ι → Nat) (c : ι → Bool) (p₀ : ι) (h0 : Sub (S p₀) σ) (nd : ∀ p, ((S p).map (·.1)).Nodup)
    (ht : ∀ p, Tr G n env (S p) test (c p))
    (turn : ∀ p, c p = true → Ex G n env (S p) body fun fl σ₂ => match fl with
      | .next | .cont => ∃ p', m p' < m p ∧ Sub (S p') σ₂
      | .brk => Ex G n env σ₂ rest Q
      | .ret r => Q (.ret r) σ₂)
    (done : ∀ p, c p = false → Ex G n env (S p) rest Q) : Ex G n env σ (.While test body [] pos :: rest) Q := by
  refine Ex.cons (Ex1.only h0 (fun ok A s E r k i => ?_) (nd _))
  refine wpAny_While ?_
  refine codeAny_whileLoop (fun q s' => ∃ p, q = m p ∧ Inv G.base ok env (S p) s'.heap ∧ Mv G.base (Wr env (S p₀)) s s' ∧ G.base.StaysIn s'.heap ∧ ∀ a ∈ owned (S p), a ∈ owned (S p₀) ∨ s.heap.get? a = none) ?_ (m p₀) ⟨p₀, rfl, i, Stp.refl.mv, k, fun _ h => .inl h⟩
  rintro _ s' ⟨p, rfl, i', mv, k', ow⟩
  refine wpAny_mono (ht p ok A s' _ r k' i') (fun b s₂ q => ?_) fun _ _ x => x
  obtain ⟨st, rfl⟩ := q
  have mv₂ : Mv G.base (Wr env (S p₀)) s s₂ := mv.trans (st.mv (W := fun _ => False)) fun _ f => f.elim
  have k₂ := st.ext.base k'
  have i₂ := i'.ext st.ext
  cases hc : c p with
  | true =>
    rw [if_pos rfl]
    refine wpAny_mono (turn p hc ok A s₂ _ r k₂ i₂) (fun f s₃ a => ?_) fun _ _ x => x
    obtain ⟨fl, σ', q, fi, i₃, m₃, k₃, o₃⟩ := a
    have mv₃ : Mv G.base (Wr env (S p₀)) s s₃ := mv₂.trans m₃ fun b w => by
      rcases w with w | w
      · exact .inl (.inl w)
      · exact (ow b w).imp .inr id
    have o₃' : ∀ a ∈ owned σ', a ∈ owned (S p₀) ∨ s.heap.get? a = none := fun a w => by
      rcases o₃ a w with w | w
      · exact ow a w
      · exact .inr (mv₂.dom a w)
    cases f <;> cases fl <;> first | exact fi.elim | skip
    · obtain ⟨p', hm, hs⟩ := q
      exact ⟨m p', hm, p', rfl, i₃.sub hs (Sub.nodup i₃.once (nd p') hs), mv₃, k₃, fun a w => o₃' a (hs.owned a w)⟩
    · exact ⟨.next, σ', q, trivial, i₃, mv₃, k₃, o₃'⟩
    · obtain ⟨p', hm, hs⟩ := q
      exact ⟨m p', hm, p', rfl, i₃.sub hs (Sub.nodup i₃.once (nd p') hs), mv₃, k₃, fun a w => o₃' a (hs.owned a w)⟩
    · exact ⟨.ret _, σ', q, fi, i₃, mv₃, k₃, o₃'⟩
  | false =>
    rw [if_neg (by simp)]
    exact wpAny_execs_nil ⟨.next, S p, done p hc, trivial, i₂, mv₂, k₂, ow⟩
end
end Mine

end
section
open PySem PySem.W PyProof.Rows PySem.Calls
set_option maxRecDepth 100000
namespace Mine

section
variable {p : Program} {loose : List Str} {mean : ExcName → Option Value} {mg mb : Str → Option Value} {s₁ : Shared} {prog : Program} {w : World}

/-- the ground behind the top -/
def groundOf (T : Top p loose mean mg mb s₁.heap) (prog : Program) (w : World) : Gr := ⟨prog, w, s₁.heap, mg, mb, T.g, T.b, T.builtins, T.nolimit⟩

theorem fnAt_of (T : Top p loose mean mg mb s₁.heap) {d : DefRec} (j : Nat) (h : (recsOf p)[j]? = some d) : ∃ a, FnAt (groundOf T prog w) d a := by
  obtain ⟨a, o, pm, code, doc, h1, h2, h3, h4⟩ := T.fn d (List.mem_of_getElem? h)
  exact ⟨a, h1, o, pm, code, doc, h2, h3, h4⟩
theorem fnAt_law (T : Top p loose mean mg mb s₁.heap) {d : DefRec} {fa : Addr} (hmg : mg d.name = some (.ref fa)) (j : Nat) (h : (recsOf p)[j]? = some d) : FnAt (groundOf T prog w) d fa := by
  obtain ⟨a, F⟩ := fnAt_of (prog := prog) (w := w) T j h
  have : mg d.name = some (.ref a) := F.name
  rw [hmg] at this; cases this
  exact F
theorem free_of (T : Top p loose mean mg mb s₁.heap) (x : Str) (h : (startupNames.contains x || loose.contains x || ((recsOf p).map (·.name)).contains x || ((litsOf p).map (·.1)).contains x || ((clssOf p loose).map (·.name)).contains x) = false) : (groundOf T prog w).mg x = none := by
  simp only [Bool.or_eq_false_iff] at h
  have q : ∀ {l : List Str}, l.contains x = false → x ∉ l := fun hl hm => by rw [List.contains_iff_mem.mpr hm] at hl; cases hl
  exact T.free x (q h.1.1.1.1) (q h.1.1.1.2) (q h.1.1.2) (q h.1.2) (q h.2)
theorem str_of (T : Top p loose mean mg mb s₁.heap) (x y : Str) (h : valOf p x = some (.str y)) : ∃ t, (groundOf T prog w).mg x = some (.str y t) := by
  obtain ⟨v, h1, h2⟩ := T.const x _ h
  have := h2 s₁.heap
  cases this
  exact ⟨_, h1⟩

theorem rep_ints {ok : Addr → Prop} {h : Heap} : ∀ {vs : List Value} {ns : List Int}, IntsAre vs ns → RepAll ok h vs (ns.map .int)
  | _, _, .nil => .nil
  | _, _, .cons n t r => .cons (.int n t) (rep_ints r)

theorem law_fin {c : ClaimW} {cl : Str → Option Addr} {mean' : ExcName → Option Value} {args : List WData} {fa aL : Addr} {vs : List Value} {ns : List Int} {n : Nat} (T : Top p loose mean mg mb s₁.heap) (hL : s₁.heap.IsList aL vs.toArray) (hI : IntsAre vs ns) (hg : s₁.gens = #[])
    (law : CallD (groundOf T prog w) n (.ref fa) [.list (ns.map .int)] (.bool true)) (hn : n ≤ 90) (hr : ∀ cls, c.raises args cls = false) (hp : c.post args (.bool true) args = true) :
    wpAny (model prog w) callerA (call (.ref fa) [.ref aL]) (fun v s' => GoodWG c cl mean' args s₁ (.ok (.ret v)) s') (fun e s' => GoodWG c cl mean' args s₁ (.error e) s') s₁ := by
  have room : Room n callerA := ⟨rfl, by
    have : (callerA.depth + 90 < recursionLimit) := by decide +kernel
    omega, by
    have : (callerA.units + 30 * 90 + 500 < cLine) := by decide +kernel
    omega⟩
  refine wpAny_mono (law (fun _ => True) callerA s₁ _ [.ref aL] room (fun _ _ e => e) (fun _ _ => trivial) (.cons (.list trivial hL (rep_ints hI)) .nil)) (fun v s' q => ?_) fun _ _ x => x
  obtain ⟨st, r⟩ := q
  cases r
  have base : Heap.StaysIn s₁.heap s'.heap := st.ext.base (fun _ _ e => e)
  exact ⟨.inl ⟨_, _, _, rfl, hr, .bool true, hp, unshared_nil⟩, .of_keep base, st.os, fun x hx => st.gens.bare (fun y hy => by rw [hg] at hy; simp at hy) x hx⟩
end
end Mine

end
section
open PySem PySem.W PyProof.Rows PySem.Calls
set_option maxRecDepth 100000
namespace Mine
open Builtin.Str StrLaws

/-- the places of a sign, at most k of them -/
def pos (c : Nat) : Nat → Nat → List Nat → List Nat
  | _, _, [] => []
  | 0, _, _ => []
  | k + 1, a, x :: r => if x = c then a :: pos c k (a + 1) r else pos c (k + 1) (a + 1) r
theorem pos_zero (c a : Nat) (l : List Nat) : pos c 0 a l = [] := by cases l <;> rfl

/-- a text cut at a sign, at most k times -/
def cutN (c : Nat) : Nat → List Nat → List (List Nat)
  | _, [] => [[]]
  | 0, l => [l]
  | k + 1, x :: r => if x = c then [] :: cutN c k r else match cutN c (k + 1) r with
    | h :: t => (x :: h) :: t
    | [] => [[x]]
theorem cutN_zero (c : Nat) (l : List Nat) : cutN c 0 l = [l] := by cases l <;> rfl
theorem cutN_ne (c : Nat) : ∀ (k : Nat) (l : List Nat), ∃ h t, cutN c k l = h :: t
  | k, [] => ⟨_, _, by cases k <;> rfl⟩
  | 0, x :: l => ⟨_, _, rfl⟩
  | k + 1, x :: r => by
    unfold cutN
    split
    · exact ⟨_, _, rfl⟩
    · obtain ⟨h, t, e⟩ := cutN_ne c (k + 1) r
      rw [e]; exact ⟨_, _, rfl⟩

theorem extract_one (l : List Nat) (i : Nat) : (l.toArray.extract i (i + 1)).toList = (l.drop i).take 1 := by
  simp

theorem subAt_one {l : List Nat} {c i : Nat} : subAt ⟨l.toArray⟩ ⟨#[c]⟩ i = decide (l[i]? = some c) := by
  unfold subAt
  show (l.toArray.extract i (i + 1) == #[c]) = _
  rw [show (l.toArray.extract i (i + 1)) = ((l.drop i).take 1).toArray from by apply Array.toList_inj.mp; simp]
  cases e : l[i]? with
  | none =>
    have : l.drop i = [] := List.drop_eq_nil_of_le (by simpa using List.getElem?_eq_none_iff.mp e)
    rw [this]; rfl
  | some x =>
    obtain ⟨hi, hx⟩ := List.getElem?_eq_some_iff.mp e
    rw [List.drop_eq_getElem_cons hi, hx]
    simp; rfl

theorem occ_loop (l : List Nat) (c k : Nat) : ∀ (m a : Nat) (acc : Array Nat) (free : Nat), free ≤ a → a + m = l.length + 1 →
    ((forIn (List.range' a m) (acc, free) (occBody ⟨l.toArray⟩ ⟨#[c]⟩ l.length k)).run).fst.toList = acc.toList ++ pos c (k - acc.size) a (l.drop a)
  | 0, a, acc, free, h, e => by
    rw [List.drop_eq_nil_of_le (by omega)]
    simp [pos]
  | m + 1, a, acc, free, h, e => by
    rw [List.range'_succ, List.forIn_cons]
    unfold occBody
    rw [subAt_one]
    show ((if ((acc.size < k ∧ free ≤ a) ∧ a + 1 ≤ l.length) ∧ decide (l[a]? = some c) = true then (pure (ForInStep.yield (acc.push a, a + 1)) : Id (ForInStep (Array Nat × Nat))) else pure (ForInStep.yield (acc, free))) >>= _ : Id (Array Nat × Nat)).run.fst.toList = _
    by_cases hl : a < l.length
    · rw [List.drop_eq_getElem_cons hl]
      by_cases hk : acc.size < k
      · obtain ⟨j, hj⟩ : ∃ j, k - acc.size = j + 1 := ⟨k - acc.size - 1, by omega⟩
        rw [hj]
        unfold pos
        by_cases hc : l[a] = c
        · rw [if_pos ⟨⟨⟨hk, h⟩, hl⟩, by simp [hl, hc]⟩, if_pos hc]
          refine (occ_loop l c k m (a + 1) (acc.push a) (a + 1) (Nat.le_refl _) (by omega)).trans ?_
          have : k - (acc.push a).size = j := by rw [Array.size_push]; omega
          rw [this]; simp
        · rw [if_neg (fun q => hc (by have := of_decide_eq_true q.2; rw [List.getElem?_eq_getElem hl] at this; exact Option.some.inj this)), if_neg hc]
          refine (occ_loop l c k m (a + 1) acc free (by omega) (by omega)).trans ?_
          rw [hj]
      · have hj : k - acc.size = 0 := by omega
        rw [if_neg (fun q => hk q.1.1.1)]
        refine (occ_loop l c k m (a + 1) acc free (by omega) (by omega)).trans ?_
        rw [hj, pos_zero, pos_zero]
    · rw [if_neg (fun q => hl q.1.2)]
      refine (occ_loop l c k m (a + 1) acc free (by omega) (by omega)).trans ?_
      rw [List.drop_eq_nil_of_le (by omega), List.drop_eq_nil_of_le (by omega)]
      cases k - acc.size <;> rfl

theorem occ_one (l : List Nat) (c k : Nat) : occurrences ⟨l.toArray⟩ ⟨#[c]⟩ 0 l.length k = pos c k 0 l := by
  rw [occ_eq]
  have := occ_loop l c k (l.length + 1 - 0) 0 #[] 0 (Nat.le_refl _) (by omega)
  simpa using this

abbrev S (l : List Nat) : Str := ⟨l.toArray⟩
theorem S_cps (x : Str) : S x.cps.toList = x := by obtain ⟨⟨l⟩⟩ := x; rfl
theorem S_length (l : List Nat) : (S l).length = l.length := by show l.toArray.size = _; simp

theorem strSub_S (l : List Nat) (i j : Nat) : strSub (S l) i j = S ((l.drop i).take (j - i)) := by
  unfold strSub
  show (⟨l.toArray.extract i j⟩ : Str) = _
  congr 1
  apply Array.toList_inj.mp
  simp [List.extract_eq_take_drop]

theorem parts_pos (l : List Nat) (c : Nat) : ∀ (m k a b : Nat), b ≤ a → a + m = l.length →
    partsFrom (S l) 1 b (pos c k a (l.drop a)) = match cutN c k (l.drop a) with
      | h :: t => S ((l.drop b).take (a - b) ++ h) :: t.map S
      | [] => []
  | 0, k, a, b, h, e => by
    rw [List.drop_eq_nil_of_le (by omega : l.length ≤ a)]
    have : pos c k a [] = [] := by cases k <;> rfl
    rw [this]
    have : cutN c k [] = [[]] := by cases k <;> rfl
    rw [this]
    show [strSub (S l) b l.length] = _
    rw [strSub_S, ← e]
    simp
  | m + 1, 0, a, b, h, e => by
    rw [pos_zero, cutN_zero]
    show [strSub (S l) b l.length] = _
    rw [strSub_S]
    have e1 : (l.drop b).take (l.length - b) = l.drop b := List.take_of_length_le (by simp)
    have e2 : l.drop a = (l.drop b).drop (a - b) := by rw [List.drop_drop]; congr 1; omega
    rw [e1, e2]
    show _ = [S _]
    rw [List.take_append_drop]
  | m + 1, k + 1, a, b, h, e => by
    have hl : a < l.length := by omega
    rw [List.drop_eq_getElem_cons hl]
    unfold pos cutN
    by_cases hc : l[a] = c
    · rw [if_pos hc, if_pos hc]
      unfold partsFrom
      rw [parts_pos l c m k (a + 1) (a + 1) (Nat.le_refl _) (by omega), strSub_S]
      obtain ⟨h', t', e'⟩ := cutN_ne c k (l.drop (a + 1))
      rw [e']
      simp
    · rw [if_neg hc, if_neg hc, parts_pos l c m (k + 1) (a + 1) b (by omega) (by omega)]
      obtain ⟨h', t', e'⟩ := cutN_ne c (k + 1) (l.drop (a + 1))
      rw [e']
      show S (List.take (a + 1 - b) (l.drop b) ++ h') :: _ = S (List.take (a - b) (l.drop b) ++ l[a] :: h') :: _
      congr 2
      have e1 : a + 1 - b = (a - b) + 1 := by omega
      have e2 : (l.drop b)[a - b]? = some l[a] := by rw [List.getElem?_drop, show b + (a - b) = a by omega, List.getElem?_eq_getElem hl]
      rw [e1, List.take_add_one, e2]
      simp

theorem strKind_pos (x : Str) : 1 ≤ Builtin.Str.strKind x := by unfold Builtin.Str.strKind; split <;> (try split) <;> decide

theorem splitMax_one {l : List Nat} {c k : Nat} (hc : c < 256) : Txt.splitMax (S l) ⟨#[c]⟩ (k : Int) = (cutN c k l).map S := by
  unfold Txt.splitMax
  have hlim : limitOf (S l) (k : Int) = k := by unfold limitOf; rw [if_neg (by omega)]; simp
  rw [hlim]
  have hkind : Builtin.Str.strKind (⟨#[c]⟩ : Str) = 1 := by unfold Builtin.Str.strKind; rw [if_pos (by simp [hc])]
  have hylen : (⟨#[c]⟩ : Str).length = 1 := rfl
  have hxlen : (S l).length = l.length := by show l.toArray.size = _; simp
  rw [hkind, hylen, hxlen, occ_one]
  have main := parts_pos l c l.length k 0 0 (Nat.le_refl _) (by omega)
  rw [List.drop_zero] at main
  obtain ⟨h', t', e'⟩ := cutN_ne c k l
  rw [e'] at main ⊢
  have main' : partsFrom (S l) 1 0 (pos c k 0 l) = (h' :: t').map S := by rw [main]; simp
  by_cases h0 : l.length < 1
  · have : l = [] := List.length_eq_zero_iff.mp (by omega)
    subst this
    rw [if_pos (by simp)]
    have : pos c k 0 [] = [] := by cases k <;> rfl
    rw [this] at main'
    exact main'
  · rw [if_neg (by have := strKind_pos (S l); rw [Bool.or_eq_true, decide_eq_true_eq, decide_eq_true_eq]; omega)]
    split
    · rename_i h
      have h : pos c k 0 l = [] := by simpa using h
      rw [h] at main'
      rw [← main']
      show [S l] = [strSub (S l) 0 (S l).length]
      rw [strSub_S, hxlen]; simp
    · rw [partsBetween_eq]; exact main'
end Mine

end
section
open PySem PySem.W PyProof.Rows PySem.Calls
set_option maxRecDepth 100000
namespace Mine

theorem data_list {n : Nat} {ds : List D} (h : ∀ d ∈ ds, d.data n = true) : (D.list ds).data (n + 1) = true := by
  show D.datas n ds = true
  induction ds with
  | nil => rfl
  | cons d r ih =>
    show (D.data n d && D.datas n r) = true
    rw [h d (.head _), ih fun e q => h e (.tail _ q)]; rfl
theorem data_tuple {n : Nat} {ds : List D} (h : ∀ d ∈ ds, d.data n = true) : (D.tuple ds).data (n + 1) = true := data_list (ds := ds) h

/-- good code points -/
def Good (l : List Nat) : Prop := ∀ c ∈ l, c < 1114112
theorem Good.data {l : List Nat} (h : Good l) {n : Nat} : (D.str (S l)).data n = true := by
  have : PyData.strOk (S l) = true := by
    unfold PyData.strOk
    rw [Array.all_eq_true']
    intro c hc
    simpa using h c (by simpa using hc)
  cases n <;> exact this

def cutA (c : Nat) : List Nat → List (List Nat)
  | [] => [[]]
  | x :: r => if x = c then [] :: cutA c r else match cutA c r with
    | h :: t => (x :: h) :: t
    | [] => [[x]]
def joinC (c : Nat) : List (List Nat) → List Nat
  | [] => []
  | [h] => h
  | h :: t => h ++ c :: joinC c t
theorem joinC_cons {c : Nat} {h : List Nat} {t : List (List Nat)} (ht : t ≠ []) : joinC c (h :: t) = h ++ c :: joinC c t := by
  cases t with
  | nil => exact absurd rfl ht
  | cons a r => rfl
theorem cutA_ne (c : Nat) : ∀ l, cutA c l ≠ []
  | [] => by simp [cutA]
  | x :: r => by
    unfold cutA
    split
    · simp
    · split <;> simp
theorem joinC_cutA (c : Nat) : ∀ l, joinC c (cutA c l) = l
  | [] => rfl
  | x :: r => by
    have ih := joinC_cutA c r
    unfold cutA
    split
    · rename_i e
      rw [joinC_cons (cutA_ne c r), ih, e]; rfl
    · split
      · rename_i h t e
        rw [e] at ih
        cases t with
        | nil => show x :: h = _; rw [show h = r from ih]
        | cons a q =>
          rw [joinC_cons (by simp)] at ih ⊢
          show x :: (h ++ _) = _; rw [ih]
      · rename_i e; exact absurd e (cutA_ne c r)
theorem cutA_free (c : Nat) : ∀ l, ∀ p ∈ cutA c l, c ∉ p
  | [] => by simp [cutA]
  | x :: r => by
    have ih := cutA_free c r
    unfold cutA
    split
    · intro p hp
      rcases List.mem_cons.mp hp with e | hp
      · simp [e]
      · exact ih p hp
    · rename_i hx
      split
      · rename_i h t e
        rw [e] at ih
        intro p hp
        rcases List.mem_cons.mp hp with q | hp
        · rw [q]; intro z
          rcases List.mem_cons.mp z with z | z
          · exact hx z.symm
          · exact ih h (.head _) z
        · exact ih p (.tail _ hp)
      · rename_i e; exact absurd e (cutA_ne c r)
theorem cutA_good {c : Nat} {l : List Nat} (h : Good l) : ∀ p ∈ cutA c l, Good p := by
  induction l with
  | nil => intro p hp; simp [cutA] at hp; subst hp; intro c hc; cases hc
  | cons x r ih =>
    have ih := ih fun c hc => h c (.tail _ hc)
    unfold cutA
    split
    · intro p hp
      rcases List.mem_cons.mp hp with e | hp
      · rw [e]; intro c hc; cases hc
      · exact ih p hp
    · split
      · rename_i g t e
        rw [e] at ih
        intro p hp
        rcases List.mem_cons.mp hp with q | hp
        · rw [q]; intro c hc
          rcases List.mem_cons.mp hc with z | z
          · rw [z]; exact h x (.head _)
          · exact ih g (.head _) c z
        · exact ih p (.tail _ hp)
      · rename_i e; exact absurd e (cutA_ne c r)
theorem cutA_length (c : Nat) : ∀ l, (cutA c l).length ≤ l.length + 1
  | [] => by simp [cutA]
  | x :: r => by
    have ih := cutA_length c r
    unfold cutA
    split
    · simp; omega
    · split
      · rename_i h t e; rw [e] at ih; simp at ih ⊢; omega
      · simp
theorem cutA_short {c : Nat} : ∀ {l p : List Nat}, p ∈ cutA c l → p.length ≤ l.length
  | [], p, h => by simp [cutA] at h; simp [h]
  | x :: r, p, h => by
    have ih := @cutA_short c r
    unfold cutA at h
    split at h
    · rcases List.mem_cons.mp h with e | h
      · simp [e]
      · have := ih h; simp; omega
    · split at h
      · rename_i g t e
        rw [e] at ih
        rcases List.mem_cons.mp h with q | q
        · have := ih (.head _); rw [q]; simpa using this
        · have := ih (.tail _ q); simp; omega
      · simp at h; simp [h]
theorem cutA_snoc_eq (c : Nat) : ∀ p, cutA c (p ++ [c]) = cutA c p ++ [[]]
  | [] => by simp [cutA]
  | x :: r => by
    have ih := cutA_snoc_eq c r
    show cutA c (x :: (r ++ [c])) = _
    unfold cutA
    rw [ih]
    split
    · rfl
    · split
      · rename_i h t e
        split
        · rename_i h' t' e'
          rw [e'] at e
          rw [List.cons_append] at e
          cases e; rfl
        · rename_i e'; exact absurd e' (cutA_ne c r)
      · rename_i e; simp at e
theorem cutA_snoc_ne {c y : Nat} (hy : y ≠ c) : ∀ p, ∃ q t, cutA c p = q ++ [t] ∧ cutA c (p ++ [y]) = q ++ [t ++ [y]]
  | [] => ⟨[], [], rfl, by simp [cutA, hy]⟩
  | x :: r => by
    obtain ⟨q, t, h1, h2⟩ := cutA_snoc_ne hy r
    show ∃ q t, _ ∧ cutA c (x :: (r ++ [y])) = _
    unfold cutA
    rw [h1, h2]
    split
    · exact ⟨[] :: q, t, rfl, rfl⟩
    · cases q with
      | nil => exact ⟨[], x :: t, rfl, rfl⟩
      | cons a q => exact ⟨(x :: a) :: q, t, rfl, rfl⟩

theorem cutN_cons (c k x : Nat) (r : List Nat) : cutN c (k + 1) (x :: r) = if x = c then [] :: cutN c k r else match cutN c (k + 1) r with
    | h :: t => (x :: h) :: t
    | [] => [[x]] := by first | rfl | (rw [cutN]; done) | (rw [cutN]; rfl)
theorem cutN_free {c k : Nat} : ∀ {p : List Nat}, c ∉ p → cutN c k p = [p]
  | [], _ => by cases k <;> rfl
  | x :: r, h => by
    cases k with
    | zero => rfl
    | succ k =>
      have hx : x ≠ c := fun e => h (by rw [e]; exact .head _)
      rw [cutN_cons, if_neg hx, cutN_free fun q => h (.tail _ q)]
theorem cutN_app {c k : Nat} {rest : List Nat} : ∀ {p : List Nat}, c ∉ p → cutN c (k + 1) (p ++ c :: rest) = p :: cutN c k rest
  | [], _ => by show cutN c (k + 1) (c :: rest) = _; rw [cutN_cons, if_pos rfl]
  | x :: r, h => by
    have hx : x ≠ c := fun e => h (by rw [e]; exact .head _)
    show cutN c (k + 1) (x :: (r ++ c :: rest)) = _
    rw [cutN_cons, if_neg hx, cutN_app fun q => h (.tail _ q)]
end Mine

end
section
open PySem PySem.W PyProof.Rows PySem.Calls
set_option maxRecDepth 100000
namespace Mine
namespace L06
open PySem.Challenge

abbrev df (i : Nat) : DefRec := defAt pw_dm0097_06 i

/-- what stands at the top -/
structure Tp (G : Gr) : Prop where
  tick : ∃ t, G.mg "TICK" = some (.str "'" t)
  len : G.mg "len" = none
  chr : G.mg "chr" = none
  list : G.mg "list" = none
  range : G.mg "range" = none
  isi : G.mg "isinstance" = none
  decode : ∃ a, FnAt G (df 2) a
  sign : ∃ a, FnAt G (df 4) a
  stretches : ∃ a, FnAt G (df 5) a
  run : ∃ a, FnAt G (df 6) a
  holds : ∃ a, FnAt G (df 7) a

section
variable {G : Gr} {n : Nat} {env : Env} {σ : St}

def dec (l : List Nat) : D := if (cutN 39 2 l).length ≤ 2 then .tuple [.none, .none, .str (S l)] else .list ((cutN 39 2 l).map fun p => .str (S p))

theorem decode_ok {l : List Nat} (T : Tp G) (hx : l.length ≤ 1000) (hl : (cutN 39 2 l).length ≤ 1000) {a : Addr} (F : FnAt G (df 2) a) : CallD G (n + 1) (.ref a) [.str (S l)] (dec l) := by
  refine CallD.fn1 (x := "s") F (fun env FE => ?_)
  obtain ⟨t, ht⟩ := T.tick
  have hz : (S l).length + 2 ≤ sizeLine := by rw [S_length]; unfold sizeLine; omega
  refine Ex.one (Ex1.assign ((Ev.meth (.name rfl) .split (.builtin _) (.cons (.global (d := .str ⟨#[39]⟩) (FE.kind rfl) ht fun _ _ => .str _ _) (.cons .int .nil)) (.split rfl (by decide) (by decide) hz)).cast (d' := .list ((cutN 39 2 l).map fun p => .str (S p)))
    (by rw [show (2 : Int) = ((2 : Nat) : Int) from rfl, splitMax_one (by decide), List.map_map]; rfl)) (FE.loc rfl)) ?_
  refine Ex.cons (Ex1.ite (Tr.cmp (Ev.call (.builtin (FE.kind rfl) T.len rfl) (.builtin _) (.cons (.name rfl) .nil) (.len_list (by simp; omega))).b Ev.int.b .le_int) (fun h => ?_) (fun h => ?_))
  · refine Ex.cons (Ex1.ret (Ev.tuple (.cons .none (.cons .none (.cons (.name rfl) .nil))) (by unfold sizeLine; simp)).b ?_)
    rw [dec, if_pos]
    have : ((cutN 39 2 l).length : Int) ≤ 2 := by simpa using h
    omega
  · refine Ex.nil ?_
    refine Ex.cons (Ex1.ret (Ev.name rfl).b ?_)
    rw [dec, if_neg]
    have : (2 : Int) < ((cutN 39 2 l).length) := by simpa using h
    omega

theorem sign_ok {k : Int} (T : Tp G) {a : Addr} (F : FnAt G (df 4) a) : ∃ c : Nat, c < 1114112 ∧ CallD G (n + 1) (.ref a) [.int k] (.str (S [c])) := by
  have hm : 0 ≤ k.fmod 12 ∧ k.fmod 12 < 12 := ⟨Int.fmod_nonneg_of_pos _ (by decide), Int.fmod_lt_of_pos _ (by decide)⟩
  have hq : 0 ≤ (k.fdiv 12).fmod 1114112 ∧ (k.fdiv 12).fmod 1114112 < 1114112 := ⟨Int.fmod_nonneg_of_pos _ (by decide), Int.fmod_lt_of_pos _ (by decide)⟩
  generalize hc : (k.fdiv 12).fmod 1114112 = code at hq
  have key : ∃ c : Nat, c < 1114112 ∧ ∀ env, FEnv env (df 4).scope → Ex G n env [("number", .val (.int k))] (df 4).body fun fl _ => fl = .ret (.str (S [c])) := by
    generalize hg : k.fmod 12 = kind at hm
    have chr : ∀ {env : Env} {σ : St} {e : Expr} {p q : Pos} {i : Int}, FEnv env (df 4).scope → Ev G n env σ e (.int i) → (he : starEach [e] env = (false, eval e env) :: starEach [] env) → noStar [e] = true → (backTo q (starEach [e] env)).any (·.1) = false → 0 ≤ i → i ≤ 1114111 → Ev G n env σ (.Call (.Name "chr" p) [e] [] q) (.str (S [i.toNat])) :=
      fun FE h h1 h2 h3 h4 h5 => Ev.call (.builtin (FE.kind rfl) T.chr rfl) (.builtin _) (.cons h .nil h1) (CallD.chr h4 h5) h2 h3
    have start : ∀ c : Nat, (∀ env, FEnv env (df 4).scope → Ex G n env [("number", .val (.int k)), ("kind", .val (.int kind))] ((df 4).body.drop 1) fun fl _ => fl = .ret (.str (S [c]))) → ∀ env, FEnv env (df 4).scope → Ex G n env [("number", .val (.int k))] (df 4).body fun fl _ => fl = .ret (.str (S [c])) := fun c h env FE =>
      Ex.one (Ex1.assign ((Ev.binop (.name rfl) .int (.mod (by decide))).cast (by rw [hg])) (FE.loc rfl)) (h env FE)
    by_cases h3 : kind < 3
    · refine ⟨39, by decide, start _ fun env FE => ?_⟩
      refine Ex.cons (Ex1.ite ((Tr.cmp (Ev.name rfl).b Ev.int.b .lt_int).cast (decide_eq_true h3)) (fun h => ?_) nofun)
      exact Ex.cons (Ex1.ret (chr FE .int rfl rfl rfl (by decide) (by decide)).b rfl)
    · by_cases h11 : kind = 11
      · by_cases hz : 55296 ≤ code ∧ code < 57344
        · refine ⟨122, by decide, start _ fun env FE => ?_⟩
          refine Ex.cons (Ex1.ite ((Tr.cmp (Ev.name rfl).b Ev.int.b .lt_int).cast (decide_eq_false h3)) nofun (fun h => Ex.nil ?_))
          refine Ex.cons (Ex1.ite ((Tr.cmp (Ev.name rfl).b Ev.int.b .eq_int).cast (c' := true) (by simp [h11])) (fun h => ?_) nofun)
          refine Ex.one (Ex1.assign ((Ev.binop (.binop (.name rfl) .int (.fdiv (by decide) (by decide))) .int (.mod (by decide))).cast (d' := .int code) (by rw [hc])) (FE.loc rfl)) ?_
          exact Ex.cons (Ex1.ret (Ev.ifexp ((Tr.cmp2 Ev.int.b (Ev.name rfl).b Ev.int.b .le_int .lt_int).cast (c' := true) (by simp [hz])) (fun _ => .str) nofun).b rfl)
        · refine ⟨code.toNat, by omega, start _ fun env FE => ?_⟩
          refine Ex.cons (Ex1.ite ((Tr.cmp (Ev.name rfl).b Ev.int.b .lt_int).cast (decide_eq_false h3)) nofun (fun h => Ex.nil ?_))
          refine Ex.cons (Ex1.ite ((Tr.cmp (Ev.name rfl).b Ev.int.b .eq_int).cast (c' := true) (by simp [h11])) (fun h => ?_) nofun)
          refine Ex.one (Ex1.assign ((Ev.binop (.binop (.name rfl) .int (.fdiv (by decide) (by decide))) .int (.mod (by decide))).cast (d' := .int code) (by rw [hc])) (FE.loc rfl)) ?_
          exact Ex.cons (Ex1.ret (Ev.ifexp ((Tr.cmp2 Ev.int.b (Ev.name rfl).b Ev.int.b .le_int .lt_int).cast (c' := false) (by simp; omega)) nofun (fun _ => chr FE (.name rfl) rfl rfl rfl hq.1 (by omega))).b rfl)
      · have hk : ([97, 66, 37, 34, 8217, 700, 65287, 92] : List Nat)[(kind - 3).toNat]? = some (([97, 66, 37, 34, 8217, 700, 65287, 92] : List Nat)[(kind - 3).toNat]'(by simp; omega)) := List.getElem?_eq_getElem _
        generalize ([97, 66, 37, 34, 8217, 700, 65287, 92] : List Nat)[(kind - 3).toNat]'(by simp; omega) = c at hk
        refine ⟨c, ?_, start _ fun env FE => ?_⟩
        · have := List.mem_of_getElem? hk
          simp at this; omega
        refine Ex.cons (Ex1.ite ((Tr.cmp (Ev.name rfl).b Ev.int.b .lt_int).cast (decide_eq_false h3)) nofun (fun h => Ex.nil ?_))
        refine Ex.cons (Ex1.ite ((Tr.cmp (Ev.name rfl).b Ev.int.b .eq_int).cast (c' := false) (by simp [h11])) nofun (fun h => Ex.nil ?_))
        refine Ex.cons (Ex1.ret (Ev.item (ds := ([97, 66, 37, 34, 8217, 700, 65287, 92] : List Nat).map fun c => .str (S [c])) (Ev.list (.cons .str (.cons .str (.cons .str (.cons .str (.cons (chr FE .int rfl rfl rfl (by decide) (by decide)) (.cons (chr FE .int rfl rfl rfl (by decide) (by decide)) (.cons (chr FE .int rfl rfl rfl (by decide) (by decide)) (.cons (chr FE .int rfl rfl rfl (by decide) (by decide)) .nil)))))))) (by decide))
          (.binop (.name rfl) .int .sub) (.list (by omega) (by omega) (by rw [List.getElem?_map, hk]; rfl))).b rfl)
  obtain ⟨c, h1, h2⟩ := key
  exact ⟨c, h1, CallD.fn1 (x := "number") F h2⟩

end
end L06
end Mine

end
section
open PySem PySem.W PyProof.Rows PySem.Calls
set_option maxRecDepth 100000
namespace Mine
namespace L06
open PySem.Challenge
section
variable {G : Gr} {n : Nat} {env : Env} {σ : St}

abbrev st (P : List (List Nat)) : List D := P.map fun p => .str (S p)

theorem S_inj {l m : List Nat} : S l = S m ↔ l = m := by
  constructor
  · intro h
    have := congrArg (fun x : Str => x.cps.toList) h
    simpa using this
  · intro h; rw [h]
theorem S_app (l m : List Nat) : S l ++ S m = S (l ++ m) := by
  show (⟨l.toArray ++ m.toArray⟩ : Str) = _
  simp

theorem signs_S (l : List Nat) : signs (S l) = l.map fun c => .str (S [c]) := by simp [signs]

theorem stretches_ok {l : List Nat} (T : Tp G) (hx : l.length ≤ 1000) {a : Addr} (F : FnAt G (df 5) a) : CallD G (n + 1) (.ref a) [.str (S l)] (.list (st (cutA 39 l))) := by
  refine CallD.fn1 (x := "text") F (fun env FE => ?_)
  refine Ex.step (Ex1.assignF (EvF.list (.cons .str .nil) (by unfold sizeLine; simp)) (FE.loc rfl)) ?_
  rintro _ ⟨a₀, rfl⟩
  refine Ex.forS (f := fun d => setS "sign" (.val d)) (ds := signs (S l)) (fun i a => [("text", .val (.str (S l))), ("stretches", .own a (st (cutA 39 (l.take i))))]) a₀ ⟨rfl, rfl, trivial⟩ (fun _ _ => by simp; decide)
    (.of_ev (.name rfl) .str) (fun d _ => .name (FE.loc rfl)) ?_ ?_
  · intro i d p hd
    rw [signs_S, List.getElem?_map] at hd
    obtain ⟨c, hc, rfl⟩ := Option.map_eq_some_iff.mp hd
    have hi : i < l.length := (List.getElem?_eq_some_iff.mp hc).1
    have htk : l.take (i + 1) = l.take i ++ [c] := by rw [List.take_add_one, hc]; rfl
    have hlen : (cutA 39 (l.take i)).length ≤ 1001 := Nat.le_trans (cutA_length 39 _) (by rw [List.length_take]; omega)
    refine Ex.cons (Ex1.ite (c := decide (c = 39)) ((Tr.cmp (Ev.name rfl).b (Ev.call (.builtin (FE.kind rfl) T.chr rfl) (.builtin _) (.cons .int .nil) (CallD.chr (i := 39) (by decide) (by decide))).b .eq_str).cast (by
      rw [show (⟨#[(39 : Int).toNat]⟩ : Str) = S [39] from rfl]; simp [S_inj])) (fun h => ?_) (fun h => ?_))
    · have hc39 : c = 39 := of_decide_eq_true h
      refine Ex.one (Ex1.append rfl .str (by unfold sizeLine; simp; omega)) (Ex.nil (Ex.nil ⟨p, rfl, ?_, trivial⟩))
      rw [htk, hc39, cutA_snoc_eq]
      simp; rfl
    · have hc39 : c ≠ 39 := of_decide_eq_false h
      obtain ⟨q, t, h1, h2⟩ := cutA_snoc_ne hc39 (l.take i)
      have ht1 : t.length ≤ 1000 := by
        have := cutA_short (c := 39) (l := l.take i) (p := t) (by rw [h1]; simp)
        rw [List.length_take] at this; omega
      have hq : q.length ≤ 1000 := by rw [h1] at hlen; simp at hlen; omega
      have hsl : S t ++ S [c] = S (t ++ [c]) := S_app _ _
      rw [h1]
      have hmap : st (q ++ [t]) = st q ++ [.str (S t)] := by simp
      rw [hmap]
      have hget : (st q ++ [D.str (S t)])[(-1 + ((st q ++ [D.str (S t)]).length : Int)).toNat]? = some (.str (S t)) := by
        have : (-1 + ((st q ++ [D.str (S t)]).length : Int)).toNat = (st q).length := by simp; omega
        rw [this]; simp
      refine Ex.one (Ex1.setItem (j := -1) rfl (.binop (.itemOwn (j := -1) rfl (.neg .int) (.inr ⟨by decide, by simp; omega, by decide, hget⟩)) (.name rfl) (.add_str (by rw [S_length, S_length]; unfold sizeLine; simp; omega))) (.neg .int) (st q).length
        (.inr ⟨by decide, by simp; omega, by decide, by simp; omega⟩)) (Ex.nil (Ex.nil ⟨p, rfl, ?_, trivial⟩))
      rw [htk, h2, hsl]
      have : (st q ++ [D.str (S t)]).set (st q).length (.str (S (t ++ [c]))) = st (q ++ [t ++ [c]]) := by simp
      rw [this]; rfl
  · intro p
    refine Ex.cons (Ex1.ret (EvB.own rfl) ?_)
    rw [signs_S, List.length_map, List.take_length]
end
end L06
end Mine

end
section
open PySem PySem.W PyProof.Rows PySem.Calls
set_option maxRecDepth 100000
namespace Mine
namespace L06
open PySem.Challenge
section
variable {G : Gr} {n : Nat} {env : Env} {σ : St}

def pt (P : List (List Nat)) (j : Nat) : D := .str (S (P[j]?.getD []))
def hs (P : List (List Nat)) (i : Nat) : List D := (List.range i).map fun j => .list [pt P (2 * j), pt P (2 * j + 1)]

/-- the pieces of a text -/
structure Pcs (P : List (List Nat)) : Prop where
  ne : P ≠ []
  free : ∀ p ∈ P, 39 ∉ p

theorem dec_few {P : List (List Nat)} (h : Pcs P) (hl : P.length ≤ 2) : dec (joinC 39 P) = .tuple [.none, .none, .str (S (joinC 39 P))] := by
  unfold dec
  rw [if_pos]
  match P, h, hl with
  | [p], h, _ => show (cutN 39 2 p).length ≤ 2; rw [cutN_free (h.free p (.head _))]; simp
  | [p, q], h, _ =>
    show (cutN 39 2 (p ++ 39 :: q)).length ≤ 2
    rw [cutN_app (h.free p (.head _)), cutN_free (h.free q (.tail _ (.head _)))]; simp
theorem cutN_many {p q r : List Nat} {t : List (List Nat)} (h : Pcs (p :: q :: r :: t)) : cutN 39 2 (joinC 39 (p :: q :: r :: t)) = [p, q, joinC 39 (r :: t)] := by
  rw [joinC_cons (by simp), cutN_app (h.free p (.head _)), joinC_cons (by simp), cutN_app (h.free q (.tail _ (.head _))), cutN_zero]
theorem dec_many {P : List (List Nat)} (h : Pcs P) (hl : 2 < P.length) : dec (joinC 39 P) = .list [pt P 0, pt P 1, .str (S (joinC 39 (P.drop 2)))] := by
  match P, h, hl with
  | p :: q :: r :: t, h, _ =>
    unfold dec
    rw [if_neg (by rw [cutN_many h]; simp), cutN_many h]
    rfl
theorem cutN_le3 {P : List (List Nat)} (h : Pcs P) : (cutN 39 2 (joinC 39 P)).length ≤ 1000 := by
  match P, h with
  | [p], h => show (cutN 39 2 p).length ≤ _; rw [cutN_free (h.free p (.head _))]; simp
  | [p, q], h =>
    show (cutN 39 2 (p ++ 39 :: q)).length ≤ _
    rw [cutN_app (h.free p (.head _)), cutN_free (h.free q (.tail _ (.head _)))]; simp
  | p :: q :: r :: t, h => rw [cutN_many h]; simp
theorem Pcs.drop {P : List (List Nat)} (h : Pcs P) {k : Nat} (hk : k < P.length) : Pcs (P.drop k) := ⟨fun e => by have := congrArg List.length e; simp at this; omega, fun p hp => h.free p (List.mem_of_mem_drop hp)⟩
theorem joinC_drop_le {c : Nat} : ∀ (P : List (List Nat)) (k : Nat), (joinC c (P.drop k)).length ≤ (joinC c P).length
  | P, 0 => by simp
  | [], k + 1 => by simp
  | [p], k + 1 => by simp [joinC]
  | p :: q :: t, k + 1 => by
    have := joinC_drop_le (c := c) (q :: t) k
    rw [joinC_cons (c := c) (h := p) (by simp)]
    show (joinC c ((q :: t).drop k)).length ≤ _
    simp; omega

theorem run_ok {l : List Nat} (T : Tp G) (hx : l.length ≤ 200) {a : Addr} (F : FnAt G (df 6) a) :
    CallD G (n + 2) (.ref a) [.str (S l)] (.tuple [.list (hs (cutA 39 l) (((cutA 39 l).length - 1) / 2)), .tuple [.none, .none, .str (S (joinC 39 ((cutA 39 l).drop (2 * (((cutA 39 l).length - 1) / 2)))))]]) := by
  have hP : Pcs (cutA 39 l) := ⟨cutA_ne 39 l, cutA_free 39 l⟩
  have hjl : joinC 39 (cutA 39 l) = l := joinC_cutA 39 l
  have hlen := cutA_length 39 l
  have hpos : 0 < (cutA 39 l).length := List.length_pos_iff.mpr hP.ne
  generalize cutA 39 l = P at *
  obtain ⟨ad, FD⟩ := T.decode
  refine CallD.fn1 (x := "text") F (fun env FE => ?_)
  refine Ex.step (Ex1.assignF (EvF.list .nil (by decide)) (FE.loc rfl)) ?_
  rintro _ ⟨a₀, rfl⟩
  refine Ex.forJ (f := fun d => setS "turn" (.val d)) (ds := rngList 0 (l.length + 1)) (fun i a => [("text", .val (.str (S (joinC 39 (P.drop (2 * i)))))), ("heads", .own a (hs P i))]) (fun i _ => 2 * i < P.length) a₀ (by omega) ⟨by rw [Nat.mul_zero, List.drop_zero, hjl]; rfl, rfl, trivial⟩ (fun _ _ => by simp; decide)
    (.of_ev (Ev.call (.builtin (FE.kind rfl) T.range rfl) (.type _) (.cons ((Ev.binop (Ev.call (.builtin (FE.kind rfl) T.len rfl) (.builtin _) (.cons (.name rfl) .nil) (.len_str (by rw [Nat.mul_zero, List.drop_zero, hjl, S_length]; omega))) .int .add).cast (d' := .int (l.length + 1)) (by rw [Nat.mul_zero, List.drop_zero, hjl, S_length])) .nil) .range) (.rng (by decide) (by decide) (by omega) (by omega)))
    (fun d _ => .name (FE.loc rfl)) ?_ ?_
  · intro i d p hd hi
    have hPi := hP.drop hi
    have hli : (joinC 39 (P.drop (2 * i))).length ≤ 200 := Nat.le_trans (joinC_drop_le _ _) (by rw [hjl]; exact hx)
    have hil : i < l.length + 1 := by omega
    refine Ex.one (Ex1.assign (.call (fn_ev FD (FE.kind rfl)) FD.callee (.cons (.name rfl) .nil) (decode_ok T (by omega) (cutN_le3 hPi) FD)) (FE.loc rfl)) ?_
    by_cases h2 : (P.drop (2 * i)).length ≤ 2
    · rw [dec_few hPi h2]
      refine Ex.cons (Ex1.ite (c := true) ((Tr.not (Tr.plain (Ev.call (.builtin (FE.kind rfl) T.isi rfl) (.builtin _) (.cons (.name rfl) (.cons (.builtin (FE.kind rfl) T.list rfl) .nil)) .isi_tuple_list).b .bool))) (fun h => ?_) nofun)
      refine Ex.freeze (x := "heads") rfl ?_
      refine Ex.cons (Ex1.ret (Ev.tuple (.cons (.name rfl) (.cons (.name rfl) .nil)) (by unfold sizeLine; simp)).b ?_)
      have : (P.length - 1) / 2 = i := by rw [List.length_drop] at h2; omega
      rw [this]; rfl
    · rw [dec_many hPi (by omega)]
      refine Ex.cons (Ex1.ite (c := false) ((Tr.not (Tr.plain (Ev.call (.builtin (FE.kind rfl) T.isi rfl) (.builtin _) (.cons (.name rfl) (.cons (.builtin (FE.kind rfl) T.list rfl) .nil)) .isi_list_list).b .bool))) nofun (fun h => Ex.nil ?_))
      refine Ex.cons (Ex1.ite (c := false) ((Tr.cmp (Ev.call (.builtin (FE.kind rfl) T.len rfl) (.builtin _) (.cons (.name rfl) .nil) (.len_list (by simp))).b Ev.int.b .ne_int)) nofun (fun h => Ex.nil ?_))
      refine Ex.one (Ex1.append rfl (Ev.item (.name rfl) (.slice .none (.some .int) .none) (.slice rfl rfl rfl nofun (by unfold sizeLine; simp))) (by unfold sizeLine; simp [hs]; omega)) ?_
      refine Ex.one (Ex1.assign (Ev.item (.name rfl) .int (.list (by decide) (by decide) rfl)) (FE.loc rfl)) ?_
      rw [List.length_drop] at h2
      refine Ex.nil ⟨p, by omega, ?_, ?_, trivial⟩
      · rw [List.drop_drop, show 2 * i + 2 = 2 * (i + 1) by omega]; rfl
      · have : hs P (i + 1) = hs P i ++ [.list [pt P (2 * i), pt P (2 * i + 1)]] := by unfold hs; rw [List.range_succ, List.map_append]; rfl
        rw [this]
        have e0 : pt (P.drop (2 * i)) 0 = pt P (2 * i) := by unfold pt; rw [List.getElem?_drop]; rfl
        have e1 : pt (P.drop (2 * i)) 1 = pt P (2 * i + 1) := by unfold pt; rw [List.getElem?_drop]
        rw [e0, e1]; rfl
  · intro p h
    exfalso
    unfold rngList at h
    simp at h; omega
end
end L06
end Mine

end
section
open PySem PySem.W PyProof.Rows PySem.Calls
set_option maxRecDepth 100000
namespace Mine
namespace L06
open PySem.Challenge
section
variable {G : Gr} {n : Nat} {env : Env} {σ : St}

theorem st_get {P : List (List Nat)} {j : Nat} (h : j < P.length) : (st P)[j]? = some (pt P j) := by
  unfold pt
  rw [List.getElem?_map, List.getElem?_eq_getElem h]; rfl
theorem pt_data {P : List (List Nat)} (h : ∀ p ∈ P, Good p) (j k : Nat) : (pt P j).data k = true := by
  unfold pt
  refine Good.data ?_
  cases e : P[j]? with
  | none => intro c hc; cases hc
  | some p => exact h p (List.mem_of_getElem? e)
theorem joinC_good {P : List (List Nat)} (h : ∀ p ∈ P, Good p) : Good (joinC 39 P) := by
  induction P with
  | nil => intro c hc; cases hc
  | cons p r ih =>
    have ih := ih fun q hq => h q (.tail _ hq)
    cases r with
    | nil => exact h p (.head _)
    | cons q t =>
      rw [joinC_cons (by simp)]
      intro c hc
      rcases List.mem_append.mp hc with hc | hc
      · exact h p (.head _) c hc
      · rcases List.mem_cons.mp hc with hc | hc
        · omega
        · exact ih c hc

theorem holds_ok {l : List Nat} (T : Tp G) (hx : l.length ≤ 200) (hg : Good l) {a : Addr} (F : FnAt G (df 7) a) : CallD G (n + 3) (.ref a) [.str (S l)] (.bool true) := by
  obtain ⟨aS, FS⟩ := T.stretches
  obtain ⟨aR, FR⟩ := T.run
  refine CallD.fn1 (x := "text") F (fun env FE => ?_)
  have hPg : ∀ p ∈ cutA 39 l, Good p := cutA_good hg
  have hlen := cutA_length 39 l
  have hpos : 0 < (cutA 39 l).length := List.length_pos_iff.mpr (cutA_ne 39 l)
  have hrun := run_ok (n := n) T hx FR
  have hstr := stretches_ok (n := n + 1) T (by omega : l.length ≤ 1000) FS
  have hshort : ∀ p ∈ cutA 39 l, p.length ≤ 200 := fun p hp => Nat.le_trans (cutA_short hp) hx
  generalize cutA 39 l = P at *
  generalize ht : (P.length - 1) / 2 = t at *
  have hstl : (st P).length = P.length := by simp
  have hlenEv : ∀ {σ : St} {p q r : Pos}, σ.lookup ("stretches" : Str) = some (.val (.list (st P))) → Ev G (n + 2) env σ (.Call (.Name "len" p) [.Name "stretches" q] [] r) (.int P.length) := fun hl =>
    (Ev.call (.builtin (FE.kind rfl) T.len rfl) (.builtin _) (.cons (.name hl) .nil) (.len_list (by rw [hstl]; omega))).cast (by rw [hstl])
  refine Ex.one (Ex1.assign (.call (fn_ev FS (FE.kind rfl)) FS.callee (.cons (.name rfl) .nil) hstr) (FE.cel rfl)) ?_
  refine Ex.one (Ex1.assign ((Ev.binop (.binop (hlenEv rfl) .int .sub) .int (.fdiv (by decide) (by decide))).cast (d' := .int t) (by
    rw [Int.fdiv_eq_ediv_of_nonneg _ (by decide)]; congr 1; omega)) (FE.loc rfl)) ?_
  refine Ex.one (Ex1.assignT (.call (fn_ev FR (FE.kind rfl)) FR.callee (.cons (.name rfl) .nil) hrun) (.cons (.name (FE.loc rfl)) (.cons (.name (FE.loc rfl)) .nil))) ?_
  have hhd : (D.list (hs P t)).data 3 = true := data_list fun d hd => by
    obtain ⟨j, _, rfl⟩ := List.mem_map.mp hd
    refine data_list fun d hd => ?_
    simp at hd
    rcases hd with rfl | rfl <;> exact pt_data hPg _ _
  refine Ex.cons (Ex1.ite (c := false) ((Tr.cmp (db := .list (hs P t)) (Ev.name rfl).b (EvF.comp (CompOk.mk' (σc := [("stretches", .val (.list (st P)))]) (ds := rngList 0 t) (f := fun d => setS "i" (.val d)) (keep := fun _ => true)
      (res := fun d => match d with | .int i => .list [pt P (2 * i.toNat), pt P (2 * i.toNat + 1)] | _ => .none) (out := hs P t) FE ⟨⟨rfl, rfl, FE.kind rfl⟩, trivial⟩
      (.of_ev (Ev.call (.builtin (FE.kind rfl) T.range rfl) (.type _) (.cons (.name rfl) .nil) .range) (.rng (by decide) (by decide) (by omega) (by omega)))
      (fun d _ => ⟨rfl, trivial⟩) (fun cenv CE d hd => ?_) ?_ ?_)).ev.b (.ne hhd hhd (by decide))).cast (by rw [eqb_refl hhd]; rfl)) nofun (fun h => Ex.nil ?_))
  · obtain ⟨i, hi, rfl⟩ := List.mem_map.mp hd
    have hi : i < t := by simpa using hi
    refine ⟨.name (CE.loc rfl), .nil, fun _ => ?_⟩
    have e1 : (0 + (i : Int)).toNat = i := by omega
    refine (Ev.list (.cons (Ev.item (.name rfl) (.binop .int (.name rfl) (.mul (mulOk_left (by decide) (by decide)))) (.list (d := pt P (2 * i)) (by omega) (by omega) ?_))
      (.cons (Ev.item (.name rfl) (.binop (.binop .int (.name rfl) (.mul (mulOk_left (by decide) (by decide)))) .int .add) (.list (d := pt P (2 * i + 1)) (by omega) (by omega) ?_)) .nil)) (by unfold sizeLine; simp)).cast ?_
    · rw [show (2 * (0 + (i : Int))).toNat = 2 * i by omega]; exact st_get (by omega)
    · rw [show (2 * (0 + (i : Int)) + 1).toNat = 2 * i + 1 by omega]; exact st_get (by omega)
    · show _ = D.list [pt P (2 * (0 + (i : Int)).toNat), pt P (2 * (0 + (i : Int)).toNat + 1)]
      rw [e1]
  · unfold rngList sizeLine; simp; omega
  · unfold rngList hs
    rw [List.filter_eq_self.mpr (by simp), List.map_map]
    have : ((t : Int) - 0).toNat = t := by omega
    rw [this]
    refine List.map_congr_left fun i _ => ?_
    show D.list [pt P (2 * (0 + (i : Int)).toNat), pt P (2 * (0 + (i : Int)).toNat + 1)] = _
    rw [show (0 + (i : Int)).toNat = i by omega]
  have hidx : 2 * t < P.length := by omega
  refine Ex.one (Ex1.assign (d := pt P (2 * t)) (Ev.item (.name rfl) (.binop .int (.name rfl) (.mul (mulOk_left (by decide) (by decide)))) (.list (by omega) (by omega) (by
    rw [show (2 * (t : Int)).toNat = 2 * t by omega]; exact st_get hidx))) (FE.loc rfl)) ?_
  have hjg : Good (joinC 39 (P.drop (2 * t))) := joinC_good fun p hp => hPg p (List.mem_of_mem_drop hp)
  have hfd : (D.tuple [.none, .none, .str (S (joinC 39 (P.drop (2 * t))))]).data 3 = true := data_tuple fun d hd => by
    simp at hd
    rcases hd with rfl | rfl
    · rfl
    · exact hjg.data
  by_cases hev : P.length % 2 = 0
  · have hdrop : P.drop (2 * t) = [P[2 * t], P[2 * t + 1]'(by omega)] := by
      rw [List.drop_eq_getElem_cons hidx, List.drop_eq_getElem_cons (by omega : 2 * t + 1 < P.length), List.drop_eq_nil_of_le (by omega)]
    have e0 : pt P (2 * t) = .str (S P[2 * t]) := by unfold pt; rw [List.getElem?_eq_getElem hidx]; rfl
    have e1 : pt P (2 * t + 1) = .str (S (P[2 * t + 1]'(by omega))) := by unfold pt; rw [List.getElem?_eq_getElem (by omega : 2 * t + 1 < P.length)]; rfl
    have l0 := hshort _ (List.getElem_mem hidx)
    have l1 := hshort _ (List.getElem_mem (by omega : 2 * t + 1 < P.length))
    have ej : joinC 39 (P.drop (2 * t)) = P[2 * t] ++ 39 :: P[2 * t + 1]'(by omega) := by rw [hdrop]; rfl
    rw [e0]
    refine Ex.cons (Ex1.ite (c := true) ((Tr.cmp (Ev.binop (hlenEv rfl) .int (.mod (by decide))).b Ev.int.b .eq_int).cast (by
      rw [Int.fmod_eq_emod_of_nonneg _ (by decide)]; simp; omega)) (fun h => ?_) nofun)
    refine Ex.one (Ex1.assign (d := .str (S (joinC 39 (P.drop (2 * t))))) ((Ev.binop (.binop (.name rfl) (.call (.builtin (FE.kind rfl) T.chr rfl) (.builtin _) (.cons .int .nil) (CallD.chr (i := 39) (by decide) (by decide))) (.add_str (by rw [S_length]; show _ + 1 ≤ _; unfold sizeLine; omega)))
      (Ev.item (d := .str (S (P[2 * t + 1]'(by omega)))) (.name rfl) (.binop (.binop .int (.name rfl) (.mul (mulOk_left (by decide) (by decide)))) .int .add) (.list (by omega) (by omega) (by
      rw [show (2 * (t : Int) + 1).toNat = 2 * t + 1 by omega, st_get (by omega), e1]))) (.add_str (by rw [show S P[2 * t] ++ (⟨#[(39 : Int).toNat]⟩ : Str) = S (P[2 * t] ++ [39]) from S_app _ _, S_length, S_length]; unfold sizeLine; simp; omega))).cast (by
        rw [show S P[2 * t] ++ (⟨#[(39 : Int).toNat]⟩ : Str) = S (P[2 * t] ++ [39]) from S_app _ _, S_app, ej]; simp)) (FE.loc rfl)) (Ex.nil ?_)
    refine Ex.cons (Ex1.ret ((Ev.cmp (Ev.name rfl).b (Ev.tuple (.cons .none (.cons .none (.cons (.name rfl) .nil))) (by unfold sizeLine; simp)).b (.eq hfd hfd (by decide))).cast (by rw [eqb_refl hfd])).b rfl)
  · have hdrop : P.drop (2 * t) = [P[2 * t]] := by
      rw [List.drop_eq_getElem_cons hidx, List.drop_eq_nil_of_le (by omega)]
    have ej : joinC 39 (P.drop (2 * t)) = P[2 * t] := by rw [hdrop]; rfl
    have e0 : pt P (2 * t) = .str (S (joinC 39 (P.drop (2 * t)))) := by rw [ej]; unfold pt; rw [List.getElem?_eq_getElem hidx]; rfl
    rw [e0]
    refine Ex.cons (Ex1.ite (c := false) ((Tr.cmp (Ev.binop (hlenEv rfl) .int (.mod (by decide))).b Ev.int.b .eq_int).cast (by
      rw [Int.fmod_eq_emod_of_nonneg _ (by decide)]; simp; omega)) nofun (fun h => Ex.nil ?_))
    refine Ex.cons (Ex1.ret ((Ev.cmp (Ev.name rfl).b (Ev.tuple (.cons .none (.cons .none (.cons (.name rfl) .nil))) (by unfold sizeLine; simp)).b (.eq hfd hfd (by decide))).cast (by rw [eqb_refl hfd])).b rfl)
end
end L06
end Mine

end
section
open PySem PySem.W PyProof.Rows PySem.Calls
set_option maxRecDepth 100000
namespace Mine
namespace L06
open PySem.Challenge
section
variable {G : Gr} {n : Nat} {env : Env} {σ : St}

theorem law_ok {ns : List Int} (T : Tp G) (hn : ns.length ≤ 63) (FE : FEnv env (df 8).scope) : Ex G (n + 3) env [("script", .val (.list (ns.map .int)))] (df 8).body fun fl _ => fl = .ret (.bool true) := by
  obtain ⟨aS, FS⟩ := T.sign
  obtain ⟨aH, FH⟩ := T.holds
  refine Ex.one (Ex1.assign .str (FE.loc rfl)) ?_
  refine Ex.forJ (f := fun d => setS "number" (.val d)) (ds := ns.map .int) (fun i l => [("script", .val (.list (ns.map .int))), ("text", .val (.str (S l)))]) (fun i l => l.length = i ∧ Good l) [] ⟨rfl, nofun⟩ ⟨rfl, rfl, trivial⟩ (fun _ _ => by simp; decide)
    (.of_ev (.name rfl) .list) (fun d _ => .name (FE.loc rfl)) ?_ ?_
  · intro i d l hd hl
    rw [List.getElem?_map] at hd
    obtain ⟨k, hk, rfl⟩ := Option.map_eq_some_iff.mp hd
    have hi : i < ns.length := (List.getElem?_eq_some_iff.mp hk).1
    obtain ⟨c, hc, hcall⟩ := sign_ok (n := n + 2) (k := k) T FS
    refine Ex.one (Ex1.assign ((Ev.binop (.name rfl) (.call (fn_ev FS (FE.kind rfl)) FS.callee (.cons (.name rfl) .nil) hcall) (.add_str (by rw [S_length, S_length]; unfold sizeLine; simp; omega))).cast (by rw [S_app])) (FE.loc rfl)) (Ex.nil ⟨l ++ [c], ⟨by simp [hl.1], ?_⟩, rfl, rfl, trivial⟩)
    intro x hx
    rcases List.mem_append.mp hx with hx | hx
    · exact hl.2 x hx
    · rw [List.mem_singleton.mp hx]; exact hc
  · intro l hl
    have hll : l.length ≤ 63 := by rw [hl.1, List.length_map]; exact hn
    refine Ex.one (Ex1.assign (d := .str (S [39])) (.call (.builtin (FE.kind rfl) T.chr rfl) (.builtin _) (.cons .int .nil) (CallD.chr (i := 39) (by decide) (by decide))) (FE.loc rfl)) ?_
    have hsz : ∀ {k : Nat}, k ≤ 100 → k ≤ sizeLine := fun h => Nat.le_trans h (by decide)
    refine Ex.forS (ι := Unit) (f := fun d => setS "given" (.val d)) (ds := [.str (S l), .str (S (l.drop 1)), .str (S ([39] ++ l)), .str (S ([39] ++ [39] ++ l)), .str (S (l ++ [39]))]) (fun i _ => [("text", .val (.str (S l))), ("tick", .val (.str (S [39])))]) () ⟨rfl, rfl, trivial⟩ (fun _ _ => by simp; decide)
      (.of_ev (Ev.list (.cons (.name rfl) (.cons ((Ev.itemS (.name rfl) (.slice (.some .int) .none .none) (.sliceS rfl rfl rfl nofun (hsz (by rw [S_length]; omega)))).cast ?_) (.cons ((Ev.binop (.name rfl) (.name rfl) (.add_str (hsz (by rw [S_length, S_length]; simp; omega)))).cast (by rw [S_app]))
        (.cons ((Ev.binop (.binop (.name rfl) (.name rfl) (.add_str (hsz (by rw [S_length]; simp)))) (.name rfl) (.add_str (hsz (by rw [S_app, S_length, S_length]; simp; omega)))).cast (by rw [S_app, S_app])) (.cons ((Ev.binop (.name rfl) (.name rfl) (.add_str (hsz (by rw [S_length, S_length]; simp; omega)))).cast (by rw [S_app])) .nil))))) (hsz (by simp))) .list)
      (fun d _ => .name (FE.loc rfl)) ?_ ?_
    · show D.str (sliceStr (S l) (some 1) none none) = _
      unfold sliceStr
      rw [show (some (1 : Int)) = some ((1 : Nat) : Int) from rfl, pickD_from]
    · intro i d _ hd
      have hm : ∃ m, d = .str (S m) ∧ m.length ≤ 200 ∧ Good m := by
        have := List.mem_of_getElem? hd
        have g39 : Good [39] := fun c hc => by rw [List.mem_singleton.mp hc]; decide
        have gapp : ∀ {x y}, Good x → Good y → Good (x ++ y) := fun hx hy c hc => (List.mem_append.mp hc).elim (hx c) (hy c)
        simp only [List.mem_cons, List.not_mem_nil, or_false] at this
        rcases this with rfl | rfl | rfl | rfl | rfl
        · exact ⟨_, rfl, by omega, hl.2⟩
        · exact ⟨_, rfl, by simp; omega, fun c hc => hl.2 c (List.mem_of_mem_drop hc)⟩
        · exact ⟨_, rfl, by simp; omega, gapp g39 hl.2⟩
        · exact ⟨_, rfl, by simp; omega, gapp (gapp g39 g39) hl.2⟩
        · exact ⟨_, rfl, by simp; omega, gapp hl.2 g39⟩
      obtain ⟨m, rfl, h1, h2⟩ := hm
      refine Ex.cons (Ex1.ite (c := false) (Tr.not (Tr.plain (Ev.call (fn_ev FH (FE.kind rfl)) FH.callee (.cons (.name rfl) .nil) (holds_ok T h1 h2 FH)).b .bool)) nofun (fun _ => Ex.nil (Ex.nil ⟨(), rfl, rfl, trivial⟩)))
    · intro _
      exact Ex.cons (Ex1.ret Ev.bool.b rfl)
theorem law_call {ns : List Int} (T : Tp G) (hn : ns.length ≤ 63) {a : Addr} (F : FnAt G (df 8) a) : CallD G (n + 4) (.ref a) [.list (ns.map .int)] (.bool true) :=
  CallD.fn1 (x := "script") F fun env FE => law_ok T hn FE
end
end L06
end Mine

end
section
open PySem PySem.W PyProof.Rows
set_option maxRecDepth 100000 in
set_option maxHeartbeats 8000000 in
theorem PySem.Challenge.cw_dm0097_06_holds : PySem.Challenge.rw_dm0097_06.Holds := by
  w_on; o_law; k_head; (case hw => w_witness2)
  k_fill
  intro w s₀ s₁ mg mb G Y fa o pm cd doc dV kV ho hd hcd hD hmg hg args vals as hpre hlay hrd hwl hlo
  refine Ground.open G ?_
  intro T B D TE TW
  clear hd hcd hD
  wrow_args hpre hlay hrd hwl hlo
  rename_i hL _ _ _ hI _ hc _
  refine Mine.law_fin T hL hI hg (Mine.L06.law_call (n := 0) (F := Mine.fnAt_law T hmg 5 (by kernel_rfl)) ?tp ?len) (by decide) (by intro _; rfl) ?post
  case post => wrow_post
  case len => omega
  case tp => exact {
    tick := Mine.str_of T _ _ (by kernel_rfl)
    len := Mine.free_of T _ (by decide +kernel)
    chr := Mine.free_of T _ (by decide +kernel)
    list := Mine.free_of T _ (by decide +kernel)
    range := Mine.free_of T _ (by decide +kernel)
    isi := Mine.free_of T _ (by decide +kernel)
    decode := Mine.fnAt_of T 0 (by kernel_rfl)
    sign := Mine.fnAt_of T 1 (by kernel_rfl)
    stretches := Mine.fnAt_of T 2 (by kernel_rfl)
    run := Mine.fnAt_of T 3 (by kernel_rfl)
    holds := Mine.fnAt_of T 4 (by kernel_rfl) }

end
