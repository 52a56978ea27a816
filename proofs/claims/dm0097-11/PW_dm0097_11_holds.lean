import PyProof.Rows.All
import Wide.All
import OpenK.AllK
import Wide.FinOn
import PySem.Challenge.RW_dm0097_11
set_option Elab.async false
set_option linter.unusedVariables false
set_option linter.unusedSimpArgs false
section
open PySem PySem.W PyProof.Rows
set_option maxRecDepth 100000
namespace Mine
/-- deep data: what a value says, all the way down -/
inductive D where
  | none
  | bool (b : Bool)
  | int (i : Int)
  | str (x : Str)
  | bytes (b : Array UInt8)
  | raw (v : Value)
  | tuple (ds : List D)
  | list (ds : List D)
  | slice (l u st : D)
  | rng (lo hi : Int)
mutual
inductive Rep (ok : Addr → Prop) (h : Heap) : Value → D → Prop
  | none : Rep ok h .none .none
  | bool (b : Bool) : Rep ok h (.bool b) (.bool b)
  | int (i : Int) (t : Tok) : Rep ok h (.int i t) (.int i)
  | str (x : Str) (t : Tok) : Rep ok h (.str x t) (.str x)
  | bytes (b : Array UInt8) (t : Tok) : Rep ok h (.bytes b t) (.bytes b)
  | raw (v : Value) : Rep ok h v (.raw v)
  | tuple {a : Addr} {vs : List Value} {ds : List D} : ok a → IsTup h a vs.toArray → RepAll ok h vs ds → Rep ok h (.ref a) (.tuple ds)
  | list {a : Addr} {vs : List Value} {ds : List D} : ok a → h.IsList a vs.toArray → RepAll ok h vs ds → Rep ok h (.ref a) (.list ds)
  | slice {a : Addr} {o : Obj} {v1 v2 v3 : Value} {l u st : D} : ok a → h.get? a = some o → o.cls = .type "slice" → o.data = .fields #[v1, v2, v3] → Rep ok h v1 l → Rep ok h v2 u → Rep ok h v3 st → Rep ok h (.ref a) (.slice l u st)
  | rng {a : Addr} {lo hi : Int} {t1 t2 t3 : Tok} : ok a → IsRange h a lo hi 1 t1 t2 t3 → Rep ok h (.ref a) (.rng lo hi)
inductive RepAll (ok : Addr → Prop) (h : Heap) : List Value → List D → Prop
  | nil : RepAll ok h [] []
  | cons {v : Value} {vs : List Value} {d : D} {ds : List D} : Rep ok h v d → RepAll ok h vs ds → RepAll ok h (v :: vs) (d :: ds)
end
def isDict : Data → Bool
  | .dict .. => true
  | _ => false
/-- what stood stands: plain objects to the sign, namespaces up to their marks -/
def Ext (base h h' : Heap) : Prop := ∀ b o, h.get? b = some o → ∃ o', h'.get? b = some o' ∧ o'.cls = o.cls ∧ o'.data = o.data ∧ ((base.get? b).isSome = true ∨ isDict o.data = false → o' = o)
theorem Ext.of_stays {base h h' : Heap} (k : ∀ b o, h.get? b = some o → h'.get? b = some o) : Ext base h h' := fun b o e => ⟨o, k b o e, rfl, rfl, fun _ => rfl⟩
theorem Ext.refl {base h : Heap} : Ext base h h := .of_stays fun _ _ e => e
theorem Ext.trans {base h₁ h₂ h₃ : Heap} (x : Ext base h₁ h₂) (y : Ext base h₂ h₃) : Ext base h₁ h₃ := by
  intro b o e
  obtain ⟨o', e', c', d', k'⟩ := x b o e
  obtain ⟨o'', e'', c'', d'', k''⟩ := y b o' e'
  refine ⟨o'', e'', c''.trans c', d''.trans d', fun q => ?_⟩
  have := k' q; subst this
  exact k'' q
theorem Ext.base {base h h' : Heap} (x : Ext base h h') (k : base.StaysIn h) : base.StaysIn h' := by
  intro b o e
  obtain ⟨o', e', _, _, k'⟩ := x b o (k b o e)
  rw [e', k' (.inl (by rw [e]; rfl))]
theorem Ext.list {base h h' : Heap} {a : Addr} {items : Array Value} (x : Ext base h h') (l : h.IsList a items) : h'.IsList a items := by
  obtain ⟨o, e, c, n, d⟩ := l
  obtain ⟨o', e', c', d', _⟩ := x a o e
  exact ⟨o', e', c'.trans c, n, d'.trans d⟩
theorem Ext.tup {base h h' : Heap} {a : Addr} {items : Array Value} (x : Ext base h h') (l : IsTup h a items) : IsTup h' a items := by
  obtain ⟨o, e, c, n, d⟩ := l
  obtain ⟨o', e', c', d', _⟩ := x a o e
  exact ⟨o', e', c'.trans c, n, d'.trans d⟩
theorem Ext.ns {base h h' : Heap} {a : Addr} {m : Str → Option Value} (x : Ext base h h') (l : h.Ns a m) : h'.Ns a m := by
  obtain ⟨o, es, ep, e, d, r⟩ := l
  obtain ⟨o', e', _, d', _⟩ := x a o e
  exact ⟨o', es, ep, e', d'.trans d, r⟩
theorem Ext.cell {base h h' : Heap} {a : Addr} {v : Option Value} (x : Ext base h h') (l : h.IsCell a v) : h'.IsCell a v := by
  obtain ⟨o, e, d⟩ := l
  obtain ⟨o', e', _, d', _⟩ := x a o e
  exact ⟨o', e', d'.trans d⟩
theorem Ext.none {base h h' : Heap} {b : Addr} (x : Ext base h h') (e : h'.get? b = none) : h.get? b = none := by
  cases q : h.get? b with
  | none => rfl
  | some o => obtain ⟨o', e', _⟩ := x b o q; rw [e'] at e; cases e
mutual
theorem Rep.ext {ok ok' : Addr → Prop} {base h h' : Heap} (x : Ext base h h') (k : ∀ a, ok a → (h.get? a).isSome = true → ok' a) : ∀ {v : Value} {d : D}, Rep ok h v d → Rep ok' h' v d
  | _, _, .none => .none
  | _, _, .bool b => .bool b
  | _, _, .int i t => .int i t
  | _, _, .str y t => .str y t
  | _, _, .bytes b t => .bytes b t
  | _, _, .raw v => .raw v
  | _, _, .tuple o l r => .tuple (k _ o (by obtain ⟨_, e, _⟩ := l; rw [e]; rfl)) (x.tup l) (RepAll.ext x k r)
  | _, _, .list o l r => .list (k _ o (by obtain ⟨_, e, _⟩ := l; rw [e]; rfl)) (x.list l) (RepAll.ext x k r)
  | _, _, .slice o e c d p q r => .slice (k _ o (by rw [e]; rfl)) (by
      obtain ⟨o', e', c', d', k'⟩ := x _ _ e
      rw [k' (.inr (by rw [d]; rfl))] at e'; exact e') c d (Rep.ext x k p) (Rep.ext x k q) (Rep.ext x k r)
  | _, _, .rng o e => .rng (k _ o (by unfold IsRange at e; rw [e]; rfl)) (by
      unfold IsRange at e ⊢
      obtain ⟨o', e', c', d', k'⟩ := x _ _ e
      rw [k' (.inr rfl)] at e'; exact e')
theorem RepAll.ext {ok ok' : Addr → Prop} {base h h' : Heap} (x : Ext base h h') (k : ∀ a, ok a → (h.get? a).isSome = true → ok' a) : ∀ {vs : List Value} {ds : List D}, RepAll ok h vs ds → RepAll ok' h' vs ds
  | _, _, .nil => .nil
  | _, _, .cons a r => .cons (Rep.ext x k a) (RepAll.ext x k r)
end
/-- an object that may stand in a tree -/
inductive IsNode (h : Heap) (a : Addr) : Prop
  | list {vs : Array Value} : h.IsList a vs → IsNode h a
  | tup {vs : Array Value} : IsTup h a vs → IsNode h a
  | slice {o : Obj} {v1 v2 v3 : Value} : h.get? a = some o → o.cls = .type "slice" → o.data = .fields #[v1, v2, v3] → IsNode h a
  | rng {lo hi : Int} {t1 t2 t3 : Tok} : IsRange h a lo hi 1 t1 t2 t3 → IsNode h a
/-- all but the objects W stands -/
def ExtBut (base : Heap) (W : Addr → Prop) (h h' : Heap) : Prop := ∀ b o, ¬ W b → h.get? b = some o → ∃ o', h'.get? b = some o' ∧ o'.cls = o.cls ∧ o'.data = o.data ∧ ((base.get? b).isSome = true ∨ isDict o.data = false → o' = o)
mutual
theorem Rep.extBut {ok ok' : Addr → Prop} {base h h' : Heap} {W : Addr → Prop} (x : ExtBut base W h h') (n : ∀ a, ok a → IsNode h a → ¬ W a) (k : ∀ a, ok a → (h.get? a).isSome = true → ok' a) : ∀ {v : Value} {d : D}, Rep ok h v d → Rep ok' h' v d
  | _, _, .none => .none
  | _, _, .bool b => .bool b
  | _, _, .int i t => .int i t
  | _, _, .str y t => .str y t
  | _, _, .bytes b t => .bytes b t
  | _, _, .raw v => .raw v
  | _, _, .tuple o l r => .tuple (k _ o (by obtain ⟨_, e, _⟩ := l; rw [e]; rfl)) (by
      have q := n _ o (.tup l)
      obtain ⟨o₁, e, c, m, d⟩ := l
      obtain ⟨o', e', c', d', _⟩ := x _ o₁ q e
      exact ⟨o', e', c'.trans c, m, d'.trans d⟩) (RepAll.extBut x n k r)
  | _, _, .list o l r => .list (k _ o (by obtain ⟨_, e, _⟩ := l; rw [e]; rfl)) (by
      have q := n _ o (.list l)
      obtain ⟨o₁, e, c, m, d⟩ := l
      obtain ⟨o', e', c', d', _⟩ := x _ o₁ q e
      exact ⟨o', e', c'.trans c, m, d'.trans d⟩) (RepAll.extBut x n k r)
  | _, _, .slice o e c d p q r => .slice (k _ o (by rw [e]; rfl)) (by
      obtain ⟨o', e', c', d', k'⟩ := x _ _ (n _ o (.slice e c d)) e
      rw [k' (.inr (by rw [d]; rfl))] at e'; exact e') c d (Rep.extBut x n k p) (Rep.extBut x n k q) (Rep.extBut x n k r)
  | _, _, .rng o e => .rng (k _ o (by unfold IsRange at e; rw [e]; rfl)) (by
      unfold IsRange at e ⊢
      obtain ⟨o', e', c', d', k'⟩ := x _ _ (n _ o (.rng e)) e
      rw [k' (.inr rfl)] at e'; exact e')
theorem RepAll.extBut {ok ok' : Addr → Prop} {base h h' : Heap} {W : Addr → Prop} (x : ExtBut base W h h') (n : ∀ a, ok a → IsNode h a → ¬ W a) (k : ∀ a, ok a → (h.get? a).isSome = true → ok' a) : ∀ {vs : List Value} {ds : List D}, RepAll ok h vs ds → RepAll ok' h' vs ds
  | _, _, .nil => .nil
  | _, _, .cons a r => .cons (Rep.extBut x n k a) (RepAll.extBut x n k r)
end
theorem RepAll.length {ok : Addr → Prop} {h : Heap} {vs : List Value} {ds : List D} (r : RepAll ok h vs ds) : vs.length = ds.length := by
  induction vs generalizing ds with
  | nil => cases r; rfl
  | cons v vs ih => cases r with | cons _ r => rw [List.length_cons, List.length_cons, ih r]
theorem RepAll.append {ok : Addr → Prop} {h : Heap} {vs ws : List Value} {ds es : List D} (r : RepAll ok h vs ds) (k : RepAll ok h ws es) : RepAll ok h (vs ++ ws) (ds ++ es) := by
  induction vs generalizing ds with
  | nil => cases r; exact k
  | cons v vs ih => cases r with | cons a r => exact .cons a (ih r)
theorem RepAll.get {ok : Addr → Prop} {h : Heap} {vs : List Value} {ds : List D} (r : RepAll ok h vs ds) {k : Nat} {d : D} (hk : ds[k]? = some d) : ∃ v, vs[k]? = some v ∧ Rep ok h v d := by
  induction vs generalizing ds k with
  | nil => cases r; cases hk
  | cons v vs ih =>
    cases r with
    | cons a r =>
      cases k with
      | zero => cases hk; exact ⟨v, rfl, a⟩
      | succ k => exact ih r hk
end Mine
end
section
open PySem PySem.W PyProof.Rows
set_option maxRecDepth 100000
namespace Mine
/-- the ground: what stands behind the top -/
structure Gr where
  prog : Program
  w : World
  base : Heap
  mg : Str → Option Value
  mb : Str → Option Value
  g : base.Ns mainGlobals mg
  b : base.Ns builtinsNs mb
  bb : ∀ x : Str, x ≠ "__name__" → mb x = bootBuiltins x
  nolimit : base.NoLimit
abbrev Gr.M (G : Gr) : Model := model G.prog G.w
/-- room for n more calls -/
structure Room (n : Nat) (A : Around) : Prop where
  handled : A.handled = none
  depth : A.depth + n < recursionLimit
  units : A.units + 30 * n + 500 < cLine
theorem Room.mono {n m : Nat} {A : Around} (r : Room n A) (h : m ≤ n) : Room m A := ⟨r.handled, by have := r.depth; omega, by have := r.units; omega⟩
theorem Room.deeper {n : Nat} {A : Around} {env : Env} (r : Room (n + 1) A) : Room n (A.deeper env) := ⟨r.handled, by have := r.depth; show A.depth + 1 + n < _; omega, by have := r.units; show A.units + 3 + 30 * n + 500 < _; omega⟩
/-- old generators stay as they are -/
structure GensKeep (g g' : Array GenState) : Prop where
  keep : ∀ (i : Nat) (x : GenState), g[i]? = some x → g'[i]? = some x
  bare : (∀ x ∈ g, x.bare = true) → ∀ x ∈ g', x.bare = true
theorem GensKeep.refl {g : Array GenState} : GensKeep g g := ⟨fun _ _ h => h, fun h => h⟩
theorem GensKeep.trans {a b c : Array GenState} (x : GensKeep a b) (y : GensKeep b c) : GensKeep a c := ⟨fun i z h => y.keep i z (x.keep i z h), fun h => y.bare (x.bare h)⟩
/-- a step that only adds -/
structure Stp (base : Heap) (s s' : Shared) : Prop where
  ext : Ext base s.heap s'.heap
  os : s'.os = s.os
  gens : GensKeep s.gens s'.gens
theorem Stp.refl {base : Heap} {s : Shared} : Stp base s s := ⟨.refl, rfl, .refl⟩
theorem Stp.trans {base : Heap} {a b c : Shared} (x : Stp base a b) (y : Stp base b c) : Stp base a c := ⟨x.ext.trans y.ext, y.os.trans x.os, x.gens.trans y.gens⟩
theorem Stp.heap {base : Heap} {s : Shared} {h' : Heap} {tk : Nat} (k : ∀ b o, s.heap.get? b = some o → h'.get? b = some o) : Stp base s { s with heap := h', toks := tk } := ⟨.of_stays k, rfl, .refl⟩
theorem Stp.tok {base : Heap} {s : Shared} {tk : Nat} : Stp base s { s with toks := tk } := ⟨.refl, rfl, .refl⟩
theorem Stp.push {base : Heap} {s : Shared} {o : Obj} {tk : Nat} : Stp base s { s with heap := s.heap.push o, toks := tk } := .heap fun _ _ e => Heap.get?_push_of_some _ e
def FreshOk (ok : Addr → Prop) (h : Heap) : Prop := ∀ b, h.get? b = none → ok b
theorem FreshOk.stp {ok : Addr → Prop} {base h h' : Heap} (f : FreshOk ok h) (x : Ext base h h') : FreshOk ok h' := fun b e => f b (x.none e)
theorem Rep.stp {ok : Addr → Prop} {base : Heap} {s s' : Shared} {v : Value} {d : D} (r : Rep ok s.heap v d) (x : Stp base s s') : Rep ok s'.heap v d := r.ext x.ext fun _ h _ => h
theorem RepAll.stp {ok : Addr → Prop} {base : Heap} {s s' : Shared} {vs : List Value} {ds : List D} (r : RepAll ok s.heap vs ds) (x : Stp base s s') : RepAll ok s'.heap vs ds := r.ext x.ext fun _ h _ => h
theorem Rep.weak {ok ok' : Addr → Prop} {h : Heap} {v : Value} {d : D} (r : Rep ok h v d) (k : ∀ a, ok a → ok' a) : Rep ok' h v d := r.ext (base := h) .refl fun a h _ => k a h
theorem RepAll.weak {ok ok' : Addr → Prop} {h : Heap} {vs : List Value} {ds : List D} (r : RepAll ok h vs ds) (k : ∀ a, ok a → ok' a) : RepAll ok' h vs ds := r.ext (base := h) .refl fun a h _ => k a h
inductive Slot where
  | val (d : D)
  | own (a : Addr) (ds : List D)
abbrev St := List (Str × Slot)
def owned : St → List Addr
  | [] => []
  | (_, .own a _) :: r => a :: owned r
  | (_, .val _) :: r => owned r
def setS (x : Str) (s : Slot) : St → St
  | [] => [(x, s)]
  | (y, t) :: r => if x = y then (x, s) :: r else (y, t) :: setS x s r
def okO (ok : Addr → Prop) (σ : St) (a : Addr) : Prop := ok a ∧ a ∉ owned σ
/-- where a name of the frame lies -/
def Holds (env : Env) (h : Heap) (x : Str) (v : Value) : Prop :=
  (env.kindOf x = some .local ∧ ∃ m, h.Ns env.locals m ∧ m x = some v) ∨
  ((env.kindOf x = some .cell ∨ env.kindOf x = some .free) ∧ ∃ c, env.cells.lookup x = some c ∧ h.IsCell c (some v))
theorem Holds.ext {base h h' : Heap} {env : Env} {x : Str} {v : Value} (e : Ext base h h') (q : Holds env h x v) : Holds env h' x v := by
  rcases q with ⟨k, m, n, r⟩ | ⟨k, c, l, r⟩
  · exact .inl ⟨k, m, e.ns n, r⟩
  · exact .inr ⟨k, c, l, e.cell r⟩
structure Frame (env : Env) (h : Heap) : Prop where
  kind : env.scope.kind = .function
  ns : ∃ m, h.Ns env.locals m
  cells : ∀ x c, env.cells.lookup x = some c → ∃ v, h.IsCell c v
  apart : env.cells.Pairwise fun x y => x.2 ≠ y.2
  away : ∀ x c, env.cells.lookup x = some c → c ≠ env.locals
  glob : env.globals = mainGlobals
  blt : env.builtins = builtinsNs
theorem Frame.ext {base h h' : Heap} {env : Env} (e : Ext base h h') (q : Frame env h) : Frame env h' :=
  ⟨q.kind, q.ns.imp fun _ n => e.ns n, fun x c l => (q.cells x c l).imp fun _ n => e.cell n, q.apart, q.away, q.glob, q.blt⟩
/-- the objects that a frame may write -/
def FrW (env : Env) (a : Addr) : Prop := a = env.locals ∨ ∃ x, env.cells.lookup x = some a
def Wr (env : Env) (σ : St) (a : Addr) : Prop := FrW env a ∨ a ∈ owned σ
/-- a list of the program's own making -/
def OwnL (h : Heap) (a : Addr) (vs : List Value) : Prop := ∃ n, h.get? a = some (listOf vs.toArray n)
theorem OwnL.list {h : Heap} {a : Addr} {vs : List Value} (l : OwnL h a vs) : h.IsList a vs.toArray := let ⟨n, e⟩ := l; ⟨_, e, rfl, n, rfl⟩
theorem OwnL.some {h : Heap} {a : Addr} {vs : List Value} (l : OwnL h a vs) : (h.get? a).isSome = true := by obtain ⟨n, e⟩ := l; rw [e]; rfl
theorem Ext.own {base h h' : Heap} {a : Addr} {vs : List Value} (x : Ext base h h') (l : OwnL h a vs) : OwnL h' a vs := by
  obtain ⟨n, e⟩ := l
  obtain ⟨o', e', _, _, k⟩ := x a _ e
  rw [k (.inr rfl)] at e'; exact ⟨n, e'⟩
theorem ExtBut.own {base h h' : Heap} {W : Addr → Prop} {a : Addr} {vs : List Value} (x : ExtBut base W h h') (w : ¬ W a) (l : OwnL h a vs) : OwnL h' a vs := by
  obtain ⟨n, e⟩ := l
  obtain ⟨o', e', _, _, k⟩ := x a _ w e
  rw [k (.inr rfl)] at e'; exact ⟨n, e'⟩
structure Inv (base : Heap) (ok : Addr → Prop) (env : Env) (σ : St) (h : Heap) : Prop where
  frame : Frame env h
  off : ∀ a, Wr env σ a → base.get? a = none
  fresh : FreshOk ok h
  vals : ∀ x d, σ.lookup x = some (.val d) → ∃ v, Holds env h x v ∧ Rep (okO ok σ) h v d
  owns : ∀ x a ds, σ.lookup x = some (.own a ds) → Holds env h x (.ref a) ∧ ok a ∧ ∃ vs, OwnL h a vs ∧ RepAll (okO ok σ) h vs ds
  there : ∀ a ∈ owned σ, ∃ vs, OwnL h a vs
  once : (owned σ).Nodup
theorem Inv.ext {ok : Addr → Prop} {base h h' : Heap} {env : Env} {σ : St} (e : Ext base h h') (i : Inv base ok env σ h) : Inv base ok env σ h' where
  frame := i.frame.ext e
  off := i.off
  fresh := i.fresh.stp e
  vals := fun x d l => let ⟨v, a, r⟩ := i.vals x d l; ⟨v, a.ext e, r.ext e fun _ h _ => h⟩
  owns := fun x a ds l => let ⟨p, q, vs, r, t⟩ := i.owns x a ds l; ⟨p.ext e, q, vs, e.own r, t.ext e fun _ h _ => h⟩
  there := fun a m => (i.there a m).imp fun _ r => e.own r
  once := i.once
theorem Inv.freshO {ok : Addr → Prop} {base h : Heap} {env : Env} {σ : St} (i : Inv base ok env σ h) : FreshOk (okO ok σ) h := fun b e => ⟨i.fresh b e, fun m => by
  obtain ⟨vs, k, q⟩ := i.there b m
  rw [e] at q; cases q⟩
section
variable (G : Gr) (n : Nat)
/-- an expression's value -/
def Ev (env : Env) (σ : St) (e : Expr) (d : D) : Prop := ∀ ok A s E, Room n A → G.base.StaysIn s.heap → Inv G.base ok env σ s.heap →
  wpAny G.M A (eval e env) (fun v s' => Stp G.base s s' ∧ Rep (okO ok σ) s'.heap v d) E s
/-- a test's answer -/
def Tr (env : Env) (σ : St) (e : Expr) (b : Bool) : Prop := ∀ ok A s E, Room n A → G.base.StaysIn s.heap → Inv G.base ok env σ s.heap →
  wpAny G.M A (isTrue e env (eval e env)) (fun r s' => Stp G.base s s' ∧ r = b) E s
def BinD (op : Operator) (da db d : D) : Prop := ∀ ok A s E va vb, Room n A → G.base.StaysIn s.heap → FreshOk ok s.heap → Rep ok s.heap va da → Rep ok s.heap vb db →
  wpAny G.M A (binaryOp op va vb) (fun v s' => Stp G.base s s' ∧ Rep ok s'.heap v d) E s
def CmpD (op : CmpOp) (da db : D) (b : Bool) : Prop := ∀ ok A s E va vb, Room n A → G.base.StaysIn s.heap → FreshOk ok s.heap → Rep ok s.heap va da → Rep ok s.heap vb db →
  wpAny G.M A (compareOp op va vb) (fun v s' => Stp G.base s s' ∧ v = .bool b) E s
def CallD (f : Value) (ds : List D) (d : D) : Prop := ∀ ok A s E vs, Room n A → G.base.StaysIn s.heap → FreshOk ok s.heap → RepAll ok s.heap vs ds →
  wpAny G.M A (call f vs) (fun v s' => Stp G.base s s' ∧ Rep ok s'.heap v d) E s
def TruD (d : D) (b : Bool) : Prop := ∀ ok A s E v, Room n A → G.base.StaysIn s.heap → FreshOk ok s.heap → Rep ok s.heap v d →
  wpAny G.M A (truthy v) (fun r s' => Stp G.base s s' ∧ r = b) E s
def IdxD (do_ di d : D) : Prop := ∀ ok A s E vo vi, Room n A → G.base.StaysIn s.heap → FreshOk ok s.heap → Rep ok s.heap vo do_ → Rep ok s.heap vi di →
  wpAny G.M A (getItem vo vi) (fun v s' => Stp G.base s s' ∧ Rep ok s'.heap v d) E s
/-- the call of a method comes to this callee with the object first -/
def MethD (d : D) (name : Str) (f : Value) : Prop := ∀ ok A s E v pl, Room n A → G.base.StaysIn s.heap → FreshOk ok s.heap → Rep ok s.heap v d →
  wpAny G.M A (getMethod v name pl) (fun r s' => Stp G.base s s' ∧ r = (f, [v])) E s
end
end Mine
end
section
open PySem PySem.W PyProof.Rows PySem.Calls
set_option maxRecDepth 100000
namespace Mine
section
variable {G : Gr} {n : Nat} {env : Env} {σ : St}
/-- borrowed: the value may be a list that the frame still fills -/
def EvB (G : Gr) (n : Nat) (env : Env) (σ : St) (e : Expr) (d : D) : Prop := ∀ ok A s E, Room n A → G.base.StaysIn s.heap → Inv G.base ok env σ s.heap →
  wpAny G.M A (eval e env) (fun v s' => Stp G.base s s' ∧ Rep ok s'.heap v d) E s
theorem Ev.b {e : Expr} {d : D} (h : Ev G n env σ e d) : EvB G n env σ e d := fun ok A s E r k i =>
  wpAny_mono (h ok A s E r k i) (fun _ _ p => ⟨p.1, p.2.weak fun _ q => q.1⟩) fun _ _ x => x
theorem Ev.cast {e : Expr} {d d' : D} (h : Ev G n env σ e d) (q : d = d') : Ev G n env σ e d' := q ▸ h
def Atomic : D → Bool
  | .none | .bool _ | .int _ | .str _ | .bytes _ | .raw _ => true
  | _ => false
theorem Rep.atomic {ok ok' : Addr → Prop} {h h' : Heap} {v : Value} {d : D} (r : Rep ok h v d) (a : Atomic d = true) : Rep ok' h' v d := by
  cases r <;> first | (cases a; done) | constructor
theorem Ev.int {i : Int} {k : Nat} {p : Pos} : Ev G n env σ (.Constant (.int i) k p) (.int i) := fun _ _ _ _ _ _ _ => wpAny_Constant_int ⟨.tok, .int _ _⟩
theorem Ev.str {x : Str} {k : Nat} {p : Pos} : Ev G n env σ (.Constant (.str x) k p) (.str x) := fun _ _ _ _ _ _ _ => Constant_str ⟨.tok, .str _ _⟩
theorem Ev.bool {b : Bool} {k : Nat} {p : Pos} : Ev G n env σ (.Constant (.bool b) k p) (.bool b) := fun _ _ _ _ _ _ _ => Constant_bool ⟨.refl, .bool _⟩
theorem Ev.none {k : Nat} {p : Pos} : Ev G n env σ (.Constant .none k p) .none := fun _ _ _ _ _ _ _ => Constant_none ⟨.refl, .none⟩
theorem wpAny_holds {A : Around} {E : Value → Shared → Prop} {s : Shared} {x : Str} {p : Pos} {v : Value} {Q : Value → Shared → Prop} {M : Model} (hk : env.scope.kind = .function) (q : Holds env s.heap x v) (h : Q v s)
    (hd : (x == ("__debug__" : Str)) = false) (hc : (x == ("__classdict__" : Str)) = false) : wpAny M A (eval (.Name x p) env) Q E s := by
  refine wpAny_Name ?_ hd
  rcases q with ⟨k, m, hn, hv⟩ | ⟨k | k, c, hl, hv⟩
  · exact wpAny_loadName_local hk k hn hv h
  · exact wpAny_loadName_cell hk k hl hv h
  · exact wpAny_loadName_free hk k hl hv h hc
theorem Ev.name {x : Str} {p : Pos} {d : D} (hl : σ.lookup x = some (.val d)) (hd : (x == ("__debug__" : Str)) = false := by decide) (hc : (x == ("__classdict__" : Str)) = false := by decide) :
    Ev G n env σ (.Name x p) d := fun _ _ _ _ _ _ i => by
  obtain ⟨v, q, r⟩ := i.vals x d hl
  exact wpAny_holds i.frame.kind q ⟨.refl, r⟩ hd hc
theorem EvB.own {x : Str} {p : Pos} {a : Addr} {ds : List D} (hl : σ.lookup x = some (.own a ds)) (hd : (x == ("__debug__" : Str)) = false := by decide) (hc : (x == ("__classdict__" : Str)) = false := by decide) :
    EvB G n env σ (.Name x p) (.list ds) := fun _ _ _ _ _ _ i => by
  obtain ⟨q, o, vs, l, r⟩ := i.owns x a ds hl
  exact wpAny_holds i.frame.kind q ⟨.refl, .list o l.list (r.weak fun _ q => q.1)⟩ hd hc
theorem Ev.global {x : Str} {p : Pos} {v : Value} {d : D} (hk : env.kindOf x = some .globalImplicit) (hv : G.mg x = some v) (hr : ∀ ok h, Rep ok h v d) (hd : (x == ("__debug__" : Str)) = false := by decide) :
    Ev G n env σ (.Name x p) d := fun _ _ _ _ _ k i =>
  Name_function_global i.frame.kind hk (loadGlobal_global (by rw [i.frame.glob]; exact G.g.keeps k) hv ⟨.refl, hr _ _⟩) hd
theorem Ev.builtin {x : Str} {p : Pos} {v : Value} (hk : env.kindOf x = some .globalImplicit) (hg : G.mg x = .none) (hv : bootBuiltins x = some v) (hn : x ≠ "__name__" := by decide) (hd : (x == ("__debug__" : Str)) = false := by decide) :
    Ev G n env σ (.Name x p) (.raw v) := fun _ _ _ _ _ k i =>
  Name_function_global i.frame.kind hk (loadGlobal_builtin (by rw [i.frame.glob]; exact G.g.keeps k) hg (by rw [i.frame.blt]; exact G.b.keeps k) ((G.bb x hn).trans hv) ⟨.refl, .raw _⟩) hd
theorem Ev.binop {a b : Expr} {op : Operator} {p : Pos} {da db d : D} (ha : Ev G n env σ a da) (hb : Ev G n env σ b db) (ho : BinD G n op da db d) : Ev G n env σ (.BinOp a op b p) d := fun ok A s E r k i =>
  wpAny_BinOp (wpAny_mono (ha ok A s E r k i) (fun va s₁ p₁ => wpAny_mono (hb ok A s₁ E r (p₁.1.ext.base k) (i.ext p₁.1.ext)) (fun vb s₂ p₂ =>
    have st := p₁.1.trans p₂.1
    wpAny_mono (ho _ A s₂ E va vb r (st.ext.base k) (i.ext st.ext).freshO (p₁.2.stp p₂.1) p₂.2) (fun _ _ p₃ => ⟨st.trans p₃.1, p₃.2⟩) fun _ _ x => x) fun _ _ x => x) fun _ _ x => x)
theorem Ev.cmp {a b : Expr} {op : CmpOp} {p : Pos} {da db : D} {c : Bool} (ha : EvB G n env σ a da) (hb : EvB G n env σ b db) (ho : CmpD G n op da db c) (hm : behindInMarks op b = false := by with_unfolding_all rfl) :
    Ev G n env σ (.Compare a [op] [b] p) (.bool c) := fun ok A s E r k i =>
  wpAny_Compare1 (wpAny_mono (ha ok A s E r k i) (fun va s₁ p₁ => wpAny_mono (hb ok A s₁ E r (p₁.1.ext.base k) (i.ext p₁.1.ext)) (fun vb s₂ p₂ =>
    have st := p₁.1.trans p₂.1
    wpAny_mono (ho _ A s₂ E va vb r (st.ext.base k) (i.ext st.ext).fresh (p₁.2.stp p₂.1) p₂.2) (fun _ _ p₃ => ⟨st.trans p₃.1, p₃.2 ▸ .bool _⟩) fun _ _ x => x) fun _ _ x => x) fun _ _ x => x) hm
theorem Tr.cmp {a b : Expr} {op : CmpOp} {p : Pos} {da db : D} {c : Bool} (ha : EvB G n env σ a da) (hb : EvB G n env σ b db) (ho : CmpD G n op da db c) (hm : behindInMarks op b = false := by with_unfolding_all rfl) :
    Tr G n env σ (.Compare a [op] [b] p) c := fun ok A s E r k i =>
  wpAny_isTrue_Compare1 (wpAny_mono (ha ok A s E r k i) (fun va s₁ p₁ => wpAny_mono (hb ok A s₁ E r (p₁.1.ext.base k) (i.ext p₁.1.ext)) (fun vb s₂ p₂ =>
    have st := p₁.1.trans p₂.1
    wpAny_mono (ho _ A s₂ E va vb r (st.ext.base k) (i.ext st.ext).fresh (p₁.2.stp p₂.1) p₂.2) (fun _ _ p₃ => by rw [p₃.2]; exact wpAny_truthy_bool ⟨st.trans p₃.1, rfl⟩) fun _ _ x => x) fun _ _ x => x) fun _ _ x => x) hm
theorem Tr.plain {e : Expr} {d : D} {c : Bool} (h : EvB G n env σ e d) (ht : TruD G n d c)
    (he : ∀ whole, isTrue e env whole = (do let v ← whole; standAt e.pos; holding [v] (truthy v)) := by intro _; rfl) : Tr G n env σ e c := fun ok A s E r k i =>
  isTrue_plain (wpAny_mono (h ok A s E r k i) (fun v s₁ p₁ => wpAny_mono (ht ok A s₁ E v r (p₁.1.ext.base k) (i.ext p₁.1.ext).fresh p₁.2) (fun _ _ p₂ => ⟨p₁.1.trans p₂.1, p₂.2⟩) fun _ _ x => x) fun _ _ x => x) (he _)
theorem Tr.not {e : Expr} {p : Pos} {c : Bool} (h : Tr G n env σ e c) : Tr G n env σ (.UnaryOp .Not e p) (!c) := fun ok A s E r k i =>
  isTrue_not (wpAny_mono (h ok A s E r k i) (fun _ _ p => ⟨p.1, by rw [p.2]⟩) fun _ _ x => x)
theorem Tr.cast {e : Expr} {c c' : Bool} (h : Tr G n env σ e c) (q : c = c') : Tr G n env σ e c' := q ▸ h
theorem Ev.ifexp {t a b : Expr} {p : Pos} {c : Bool} {d : D} (h : Tr G n env σ t c) (ha : c = true → Ev G n env σ a d) (hb : c = false → Ev G n env σ b d) : Ev G n env σ (.IfExp t a b p) d := fun ok A s E r k i =>
  IfExp_ (wpAny_mono (h ok A s E r k i) (fun b s₁ p₁ => by
    obtain ⟨st, rfl⟩ := p₁
    cases b with
    | true => exact wpAny_mono (ha rfl ok A s₁ E r (st.ext.base k) (i.ext st.ext)) (fun _ _ p₂ => ⟨st.trans p₂.1, p₂.2⟩) fun _ _ x => x
    | false => exact wpAny_mono (hb rfl ok A s₁ E r (st.ext.base k) (i.ext st.ext)) (fun _ _ p₂ => ⟨st.trans p₂.1, p₂.2⟩) fun _ _ x => x) fun _ _ x => x)
/-- a row of arguments or items -/
def EvL (G : Gr) (n : Nat) (env : Env) (σ : St) (es : List Expr) (ds : List D) : Prop := ∀ ok A s E p, Room n A → G.base.StaysIn s.heap → Inv G.base ok env σ s.heap →
  wpAny G.M A (spliced (backTo p (starEach es env))) (fun vs s' => Stp G.base s s' ∧ RepAll (okO ok σ) s'.heap vs ds) E s
def EvLB (G : Gr) (n : Nat) (env : Env) (σ : St) (es : List Expr) (ds : List D) : Prop := ∀ ok A s E p, Room n A → G.base.StaysIn s.heap → Inv G.base ok env σ s.heap →
  wpAny G.M A (spliced (backTo p (starEach es env))) (fun vs s' => Stp G.base s s' ∧ RepAll ok s'.heap vs ds) E s
def noStar : List Expr → Bool
  | [] => true
  | .Starred .. :: _ => false
  | _ :: r => noStar r
theorem EvL.nil : EvL G n env σ [] [] := fun _ _ _ _ _ _ _ _ => args_nil ⟨.refl, .nil⟩
theorem EvL.cons {e : Expr} {es : List Expr} {d : D} {ds : List D} (h : Ev G n env σ e d) (hs : EvL G n env σ es ds) (he : starEach (e :: es) env = (false, eval e env) :: starEach es env := by rfl) : EvL G n env σ (e :: es) (d :: ds) := fun ok A s E p r k i =>
  args_cons (wpAny_mono (h ok A s E r k i) (fun v s₁ p₁ => wpAny_mono (hs ok A s₁ E p r (p₁.1.ext.base k) (i.ext p₁.1.ext)) (fun vs s₂ p₂ => ⟨p₁.1.trans p₂.1, .cons (p₁.2.stp p₂.1) p₂.2⟩) fun _ _ x => x) fun _ _ x => x) he
theorem EvLB.nil : EvLB G n env σ [] [] := fun _ _ _ _ _ _ _ _ => args_nil ⟨.refl, .nil⟩
theorem EvLB.cons {e : Expr} {es : List Expr} {d : D} {ds : List D} (h : EvB G n env σ e d) (hs : EvLB G n env σ es ds) (he : starEach (e :: es) env = (false, eval e env) :: starEach es env := by rfl) : EvLB G n env σ (e :: es) (d :: ds) := fun ok A s E p r k i =>
  args_cons (wpAny_mono (h ok A s E r k i) (fun v s₁ p₁ => wpAny_mono (hs ok A s₁ E p r (p₁.1.ext.base k) (i.ext p₁.1.ext)) (fun vs s₂ p₂ => ⟨p₁.1.trans p₂.1, .cons (p₁.2.stp p₂.1) p₂.2⟩) fun _ _ x => x) fun _ _ x => x) he
/-- what may stand at a call's head -/
inductive Callee (G : Gr) : Value → Prop
  | builtin (id : String) : Callee G (.builtin id)
  | type (T : String) : Callee G (.type T)
  | fn {a : Addr} {o : Obj} {fd : FuncData} : G.base.get? a = some o → o.data = .func fd → Callee G (.ref a)
theorem callWith_callee {M : Model} {A : Around} {E : Value → Shared → Prop} {s : Shared} {pos : Pos} {f : Value} {first : List Value} {es : List Expr} {Q : Value → Shared → Prop} (c : Callee G f)
    (hplain : (backTo pos (starEach es env)).any (·.1) = false)
    (h : wpAny M A (spliced (backTo pos (starEach es env))) (fun vs s₁ => G.base.StaysIn s₁.heap ∧ wpAny M A (call f (first ++ vs)) Q E s₁) E s) (hns : noStar es = true) :
    wpAny M A (callWith pos f first (backTo pos (starEach es env)) []) Q E s := by
  have hargs : ∀ {Q' : Args → Shared → Prop}, wpAny M A (spliced (backTo pos (starEach es env))) (fun vs s₁ => Q' ⟨vs, []⟩ s₁) E s → wpAny M A (evalArgs f true (backTo pos (starEach es env)) []) Q' E s := by
    intro Q' hq
    cases es with
    | nil =>
      have e1 : evalArgs f true (backTo pos (starEach [] env)) [] = (pure ⟨[], []⟩ : Sem Args) := rfl
      rw [e1]
      exact fun Γ p hΓ => hq Γ p hΓ
    | cons e r =>
      have he : starEach (e :: r) env = (false, eval e env) :: starEach r env := by
        cases e <;> first | rfl | cases hns
      rw [he] at hq ⊢
      exact evalArgs_plain hq
  cases c with
  | builtin id => exact callWith_builtin hplain (hargs (wpAny_mono h (fun vs s₁ p => p.2) fun _ _ x => x))
  | type T => exact PyProof.Rows.callWith_type hplain (hargs (wpAny_mono h (fun vs s₁ p => p.2) fun _ _ x => x))
  | fn ho hd => exact callWith_function (hargs (wpAny_mono h (fun vs s₁ p => ⟨⟨p.1 _ _ ho, hd⟩, p.2⟩) fun _ _ x => x))
theorem Ev.call {x : Str} {p pos : Pos} {es : List Expr} {f : Value} {ds : List D} {d : D} (hf : Ev G n env σ (.Name x p) (.raw f)) (c : Callee G f) (ha : EvL G n env σ es ds) (hc : CallD G n f ds d)
    (hns : noStar es = true := by rfl) (hplain : (backTo pos (starEach es env)).any (·.1) = false := by rfl) : Ev G n env σ (.Call (.Name x p) es [] pos) d := fun ok A s E r k i =>
  Call_ (wpAny_mono (hf ok A s E r k i) (fun v s₁ p₁ => by
    obtain ⟨st, rp⟩ := p₁
    cases rp
    refine callWith_callee c hplain (wpAny_mono (ha ok A s₁ E pos r (st.ext.base k) (i.ext st.ext)) (fun vs s₂ p₂ => ⟨p₂.1.ext.base (st.ext.base k), ?_⟩) fun _ _ x => x) hns
    have st' := st.trans p₂.1
    exact wpAny_mono (hc _ A s₂ E vs r (st'.ext.base k) (i.ext st'.ext).freshO p₂.2) (fun _ _ p₃ => ⟨st'.trans p₃.1, p₃.2⟩) fun _ _ x => x) fun _ _ x => x)
theorem Ev.callB {x : Str} {p pos : Pos} {es : List Expr} {f : Value} {ds : List D} {d : D} (hf : Ev G n env σ (.Name x p) (.raw f)) (c : Callee G f) (ha : EvLB G n env σ es ds) (hc : CallD G n f ds d) (hat : Atomic d = true)
    (hns : noStar es = true := by rfl) (hplain : (backTo pos (starEach es env)).any (·.1) = false := by rfl) : Ev G n env σ (.Call (.Name x p) es [] pos) d := fun ok A s E r k i =>
  Call_ (wpAny_mono (hf ok A s E r k i) (fun v s₁ p₁ => by
    obtain ⟨st, rp⟩ := p₁
    cases rp
    refine callWith_callee c hplain (wpAny_mono (ha ok A s₁ E pos r (st.ext.base k) (i.ext st.ext)) (fun vs s₂ p₂ => ⟨p₂.1.ext.base (st.ext.base k), ?_⟩) fun _ _ x => x) hns
    have st' := st.trans p₂.1
    exact wpAny_mono (hc _ A s₂ E vs r (st'.ext.base k) (i.ext st'.ext).fresh p₂.2) (fun _ _ p₃ => ⟨st'.trans p₃.1, p₃.2.atomic hat⟩) fun _ _ x => x) fun _ _ x => x)
theorem Ev.meth {o : Expr} {name : Str} {apos pos : Pos} {es : List Expr} {f : Value} {dv : D} {ds : List D} {d : D} (ho : Ev G n env σ o dv) (hm : MethD G n dv name f) (c : Callee G f) (ha : EvL G n env σ es ds) (hc : CallD G n f (dv :: ds) d)
    (hns : noStar es = true := by rfl) (hplain : (backTo pos (starEach es env)).any (·.1) = false := by rfl)
    {pl : Sem Bool} (he : eval (.Call (.Attribute o name apos) es [] pos) env = (do
      let ov ← eval o env
      standAt apos.atName
      let (f, first) ← holding [ov] (getMethod ov name pl)
      callWith pos f first (backTo pos (starEach es env)) []) := by rfl) : Ev G n env σ (.Call (.Attribute o name apos) es [] pos) d := fun ok A s E r k i =>
  MethodCall_ (pl := pl) (wpAny_mono (ho ok A s E r k i) (fun v s₁ p₁ => wpAny_mono (hm _ A s₁ E v _ r (p₁.1.ext.base k) (i.ext p₁.1.ext).freshO p₁.2) (fun fx s₂ p₂ => by
    obtain ⟨st₂, rfl⟩ := p₂
    have st' := p₁.1.trans st₂
    refine callWith_callee c hplain (wpAny_mono (ha ok A s₂ E pos r (st'.ext.base k) (i.ext st'.ext)) (fun vs s₃ p₃ => ⟨p₃.1.ext.base (st'.ext.base k), ?_⟩) fun _ _ x => x) hns
    have st'' := st'.trans p₃.1
    exact wpAny_mono (hc _ A s₃ E _ r (st''.ext.base k) (i.ext st''.ext).freshO (.cons ((p₁.2.stp st₂).stp p₃.1) p₃.2)) (fun _ _ p₄ => ⟨st''.trans p₄.1, p₄.2⟩) fun _ _ x => x) fun _ _ x => x) fun _ _ x => x) he
theorem Ev.sub {o i : Expr} {p : Pos} {do_ di d : D} {T id : String} (ho : Ev G n env σ o do_) (hi : Ev G n env σ i di) (hx : IdxD G n do_ di d)
    (hT : ∀ ok (s : Shared) v, Rep ok s.heap v do_ → s.TypeIs v T) (hl : typeLookup (.type T) "__getitem__" = pure (some (.builtin id)))
    (hs : ∀ a b, ∃ ops, subscripted i false a b = operate ops (getItem a b) := by intro a b; first | exact ⟨[a, b], rfl⟩ | exact ⟨[b, a], rfl⟩) : Ev G n env σ (.Subscript o i p) d := fun ok A s E r k iv =>
  Subscript_ (wpAny_mono (ho ok A s E r k iv) (fun vo s₁ p₁ => wpAny_mono (hi ok A s₁ E r (p₁.1.ext.base k) (iv.ext p₁.1.ext)) (fun vi s₂ p₂ => by
    have st := p₁.1.trans p₂.1
    obtain ⟨ops, hs⟩ := hs vo vi
    exact tail_any (hT _ _ _ (p₁.2.stp p₂.1)) hl (wpAny_mono (hx _ A s₂ E vo vi r (st.ext.base k) (iv.ext st.ext).freshO (p₁.2.stp p₂.1) p₂.2) (fun _ _ p₃ => ⟨st.trans p₃.1, p₃.2⟩) fun _ _ x => x) hs) fun _ _ x => x) fun _ _ x => x)
theorem fresh_get {h : Heap} : h.get? h.objs.size = .none := by
  cases q : h.get? h.objs.size with
  | none => rfl
  | some o => exact absurd (Heap.lt_size q) (Nat.lt_irrefl _)
theorem Ev.list {es : List Expr} {p : Pos} {ds : List D} (h : EvL G n env σ es ds) (hz : ds.length ≤ sizeLine) : Ev G n env σ (.List es p) (.list ds) := fun ok A s E r k i =>
  List_ (wpAny_mono (h ok A s E p r k i) (fun vs s₁ p₁ => by
    refine wpAny_newObj_type ?_ (by show vs.toArray.size ≤ sizeLine; rw [List.size_toArray, p₁.2.length]; exact hz)
    have st : Stp G.base s₁ { s₁ with heap := s₁.heap.push { cls := .type "list", data := .seq vs.toArray } } := .push
    exact ⟨p₁.1.trans st, .list ((i.ext p₁.1.ext).freshO _ fresh_get) ⟨_, Heap.get?_push_size _ rfl, rfl, _, rfl⟩ (p₁.2.stp st)⟩) fun _ _ x => x)
theorem Ev.tuple {es : List Expr} {p : Pos} {k : Nat} {ds : List D} (h : EvL G n env σ es ds) (hz : ds.length ≤ sizeLine) : Ev G n env σ (.Tuple es k p) (.tuple ds) := fun ok A s E r k i =>
  Tuple_ (wpAny_mono (h ok A s E p r k i) (fun vs s₁ p₁ => by
    refine wpAny_newObj_type ?_ (by show vs.toArray.size ≤ sizeLine; rw [List.size_toArray, p₁.2.length]; exact hz)
    have st : Stp G.base s₁ { s₁ with heap := s₁.heap.push { cls := .type "tuple", data := .seq vs.toArray } } := .push
    exact ⟨p₁.1.trans st, .tuple ((i.ext p₁.1.ext).freshO _ fresh_get) ⟨_, Heap.get?_push_size _ rfl, rfl, _, rfl⟩ (p₁.2.stp st)⟩) fun _ _ x => x)
/-- a part of a slice -/
def EvO (G : Gr) (n : Nat) (env : Env) (σ : St) (e : Option Expr) (d : D) : Prop := ∀ ok A s E, Room n A → G.base.StaysIn s.heap → Inv G.base ok env σ s.heap →
  wpAny G.M A (evalPart e env) (fun v s' => Stp G.base s s' ∧ Rep (okO ok σ) s'.heap v d) E s
theorem EvO.none : EvO G n env σ .none .none := fun _ _ _ _ _ _ _ => wpAny_pure ⟨.refl, .none⟩
theorem EvO.some {e : Expr} {d : D} (h : Ev G n env σ e d) : EvO G n env σ (.some e) d := h
theorem Ev.slice {l u st : Option Expr} {p : Pos} {dl du ds : D} (hl : EvO G n env σ l dl) (hu : EvO G n env σ u du) (hs : EvO G n env σ st ds) : Ev G n env σ (.Slice l u st p) (.slice dl du ds) := fun ok A s E r k i =>
  wpAny_Slice (wpAny_mono (hl ok A s E r k i) (fun v1 s₁ p₁ => wpAny_mono (hu ok A s₁ E r (p₁.1.ext.base k) (i.ext p₁.1.ext)) (fun v2 s₂ p₂ => by
    have st := p₁.1.trans p₂.1
    refine wpAny_mono (hs ok A s₂ E r (st.ext.base k) (i.ext st.ext)) (fun v3 s₃ p₃ => ?_) fun _ _ x => x
    have st' := st.trans p₃.1
    have sp : Stp G.base s₃ { s₃ with heap := s₃.heap.push { cls := .type "slice", data := .fields #[v1, v2, v3] } } := .push
    exact ⟨st'.trans sp, .slice ((i.ext st'.ext).freshO _ fresh_get) (Heap.get?_push_size _ rfl) rfl rfl (((p₁.2.stp p₂.1).stp p₃.1).stp sp) ((p₂.2.stp p₃.1).stp sp) (p₃.2.stp sp)⟩) fun _ _ x => x) fun _ _ x => x)
end
end Mine
end
section
open PySem PySem.W PyProof.Rows PySem.Calls
set_option maxRecDepth 100000
namespace Mine
theorem lookup_setS_self {x : Str} {s : Slot} : ∀ σ : St, (setS x s σ).lookup x = some s
  | [] => by simp [setS]
  | (y, t) :: r => by
    unfold setS
    by_cases e : x = y
    · rw [if_pos e]; simp
    · rw [if_neg e, List.lookup_cons, beq_eq_false_iff_ne.mpr e]; exact lookup_setS_self r
theorem lookup_setS_ne {x y : Str} {s : Slot} (n : y ≠ x) : ∀ σ : St, (setS x s σ).lookup y = σ.lookup y
  | [] => by simp [setS, n]
  | (z, t) :: r => by
    unfold setS
    by_cases e : x = z
    · subst e; rw [if_pos rfl, List.lookup_cons, List.lookup_cons, beq_eq_false_iff_ne.mpr n]
    · rw [if_neg e, List.lookup_cons, List.lookup_cons]
      cases y == z <;> simp [lookup_setS_ne n r]
theorem owned_of_lookup {x : Str} {a : Addr} {ds : List D} : ∀ {σ : St}, σ.lookup x = some (.own a ds) → a ∈ owned σ
  | (y, t) :: r, h => by
    rw [List.lookup_cons] at h
    cases e : x == y with
    | true => rw [e] at h; cases h; exact List.mem_cons_self
    | false =>
      rw [e] at h
      have := owned_of_lookup h
      cases t with
      | val d => exact this
      | own b es => exact List.mem_cons_of_mem _ this
def slotAddr : Slot → List Addr
  | .val _ => []
  | .own a _ => [a]
theorem owned_cons (x : Str) (s : Slot) (r : St) : owned ((x, s) :: r) = slotAddr s ++ owned r := by cases s <;> rfl
/-- what setS does to the owned ones -/
theorem owned_setS (x : Str) (s : Slot) : ∀ σ : St, ∃ l₁ l₂ l₃, owned σ = l₁ ++ l₂ ++ l₃ ∧ owned (setS x s σ) = l₁ ++ slotAddr s ++ l₃ ∧ (∀ t, σ.lookup x = some t → l₂ = slotAddr t)
  | [] => ⟨[], [], [], rfl, by cases s <;> rfl, fun t h => by cases h⟩
  | (y, t) :: r => by
    unfold setS
    by_cases e : x = y
    · subst e
      rw [if_pos rfl, owned_cons, owned_cons]
      exact ⟨[], slotAddr t, owned r, by simp, by simp, fun t' h => by simp at h; rw [h]⟩
    · rw [if_neg e, owned_cons, owned_cons]
      obtain ⟨l₁, l₂, l₃, h1, h2, h3⟩ := owned_setS x s r
      refine ⟨slotAddr t ++ l₁, l₂, l₃, by rw [h1]; simp, by rw [h2]; simp, fun t' h => h3 t' ?_⟩
      rw [List.lookup_cons, beq_eq_false_iff_ne.mpr e] at h; exact h
theorem owned_setS_sub {x : Str} {s : Slot} {σ : St} {a : Addr} (h : a ∈ owned (setS x s σ)) : a ∈ owned σ ∨ a ∈ slotAddr s := by
  obtain ⟨l₁, l₂, l₃, h1, h2, _⟩ := owned_setS x s σ
  rw [h2] at h; rw [h1]
  simp only [List.mem_append] at h ⊢
  rcases h with (h | h) | h <;> simp [h]
theorem owned_setS_val {x : Str} {d : D} {σ : St} {a : Addr} (h : a ∈ owned (setS x (.val d) σ)) : a ∈ owned σ := (owned_setS_sub h).elim id fun h => nomatch h
theorem nodup_setS_val {x : Str} {d : D} {σ : St} (h : (owned σ).Nodup) : (owned (setS x (.val d) σ)).Nodup := by
  obtain ⟨l₁, l₂, l₃, h1, h2, _⟩ := owned_setS x (.val d) σ
  rw [h1] at h; rw [h2]
  exact h.sublist (by simp [slotAddr, List.append_assoc])
theorem nodup_setS_own {x : Str} {a : Addr} {ds : List D} {σ : St} (h : (owned σ).Nodup) (n : a ∉ owned σ ∨ ∃ es, σ.lookup x = some (.own a es)) : (owned (setS x (.own a ds) σ)).Nodup := by
  obtain ⟨l₁, l₂, l₃, h1, h2, h3⟩ := owned_setS x (.own a ds) σ
  rw [h2]
  rcases n with n | ⟨es, n⟩
  · rw [h1] at h n
    simp only [slotAddr]
    have h' : (l₁ ++ l₃).Nodup := h.sublist (by simp [List.append_assoc])
    simp only [List.mem_append, not_or] at n
    rw [List.append_assoc]
    rw [List.nodup_append] at h' ⊢
    refine ⟨h'.1, ?_, ?_⟩
    · rw [List.singleton_append, List.nodup_cons]; exact ⟨n.2, h'.2.1⟩
    · intro p hp q hq e
      rw [List.singleton_append, List.mem_cons] at hq
      rcases hq with rfl | hq
      · exact n.1.1 (e ▸ hp)
      · exact h'.2.2 p hp q hq e
  · rw [h1, h3 _ n] at h; exact h
/-- the address goes out of the owned ones -/
theorem notMem_setS_val {x : Str} {a : Addr} {ds : List D} {d : D} {σ : St} (h : (owned σ).Nodup) (l : σ.lookup x = some (.own a ds)) : a ∉ owned (setS x (.val d) σ) := by
  obtain ⟨l₁, l₂, l₃, h1, h2, h3⟩ := owned_setS x (.val d) σ
  rw [h2]; rw [h1, h3 _ l] at h
  simp only [slotAddr, List.append_assoc, List.append_nil] at h ⊢
  intro m
  rw [List.nodup_append] at h
  rcases List.mem_append.mp m with m | m
  · exact h.2.2 a m a (by simp) rfl
  · have := h.2.1; simp at this; exact this.1 m
theorem node_not_frame {env : Env} {h : Heap} {a : Addr} (F : Frame env h) (n : IsNode h a) : ¬ FrW env a := by
  rintro (e | ⟨x, l⟩)
  · obtain ⟨m, o, es, ep, q, d, _⟩ := F.ns
    rw [← e] at q
    cases n with
    | list l => obtain ⟨o', q', _, k, d'⟩ := l; rw [q] at q'; cases q'; rw [d] at d'; cases d'
    | tup l => obtain ⟨o', q', _, k, d'⟩ := l; rw [q] at q'; cases q'; rw [d] at d'; cases d'
    | slice q' _ d' => rw [q] at q'; cases q'; rw [d] at d'; cases d'
    | rng q' => unfold IsRange at q'; rw [q] at q'; cases q'; cases d
  · obtain ⟨v, o, q, d⟩ := F.cells x a l
    cases n with
    | list l => obtain ⟨o', q', _, k, d'⟩ := l; rw [q] at q'; cases q'; rw [d] at d'; cases d'
    | tup l => obtain ⟨o', q', _, k, d'⟩ := l; rw [q] at q'; cases q'; rw [d] at d'; cases d'
    | slice q' _ d' => rw [q] at q'; cases q'; rw [d] at d'; cases d'
    | rng q' => unfold IsRange at q'; rw [q] at q'; cases q'; cases d
end Mine
end
section
open PySem PySem.W PyProof.Rows PySem.Calls
set_option maxRecDepth 100000
namespace Mine
inductive Fl where
  | next | brk | cont
  | ret (d : D)
def FlowIs (ok : Addr → Prop) (h : Heap) : Flow → Fl → Prop
  | .next, .next => True
  | .brk, .brk => True
  | .cont, .cont => True
  | .ret v, .ret d => Rep ok h v d
  | _, _ => False
structure Mv (base : Heap) (W : Addr → Prop) (s s' : Shared) : Prop where
  ext : ExtBut base W s.heap s'.heap
  dom : ∀ b, s'.heap.get? b = none → s.heap.get? b = none
  os : s'.os = s.os
  gens : GensKeep s.gens s'.gens
theorem Stp.mv {base : Heap} {W : Addr → Prop} {s s' : Shared} (x : Stp base s s') : Mv base W s s' := ⟨fun b o _ e => x.ext b o e, fun b e => x.ext.none e, x.os, x.gens⟩
theorem Mv.stp {base : Heap} {W : Addr → Prop} {s s' : Shared} (x : Mv base W s s') (h : ∀ b, W b → s.heap.get? b = none) : Stp base s s' := ⟨fun b o e => x.ext b o (fun q => by rw [h b q] at e; cases e) e, x.os, x.gens⟩
theorem Mv.trans {base : Heap} {W W' : Addr → Prop} {a b c : Shared} (x : Mv base W a b) (y : Mv base W' b c) (h : ∀ p, W' p → W p ∨ a.heap.get? p = none) : Mv base W a c := by
  refine ⟨fun p o n e => ?_, fun p e => x.dom p (y.dom p e), y.os.trans x.os, x.gens.trans y.gens⟩
  obtain ⟨o', e', c', d', k'⟩ := x.ext p o n e
  obtain ⟨o'', e'', c'', d'', k''⟩ := y.ext p o' (fun q => (h p q).elim n fun z => by rw [z] at e; cases e) e'
  refine ⟨o'', e'', c''.trans c', d''.trans d', fun q => ?_⟩
  have := k' q; subst this
  exact k'' q
theorem Mv.base {base : Heap} {W : Addr → Prop} {s s' : Shared} (x : Mv base W s s') (k : base.StaysIn s.heap) (h : ∀ a, W a → base.get? a = none) : base.StaysIn s'.heap := by
  intro b o e
  obtain ⟨o', e', _, _, k'⟩ := x.ext b o (fun q => by rw [h b q] at e; cases e) (k b o e)
  rw [e', k' (.inl (by rw [e]; rfl))]
section
variable {G : Gr} {n : Nat} {env : Env} {σ : St}
def After (G : Gr) (env : Env) (σ : St) (ok : Addr → Prop) (s : Shared) (Q : Fl → St → Prop) (f : Flow) (s' : Shared) : Prop :=
  ∃ fl σ', Q fl σ' ∧ FlowIs ok s'.heap f fl ∧ Inv G.base ok env σ' s'.heap ∧ Mv G.base (Wr env σ) s s' ∧ G.base.StaysIn s'.heap ∧ ∀ a ∈ owned σ', a ∈ owned σ ∨ s.heap.get? a = none
def Ex (G : Gr) (n : Nat) (env : Env) (σ : St) (body : List Stmt) (Q : Fl → St → Prop) : Prop := ∀ ok A s E, Room n A → G.base.StaysIn s.heap → Inv G.base ok env σ s.heap →
  wpAny G.M A (execs body env) (After G env σ ok s Q) E s
def Ex1 (G : Gr) (n : Nat) (env : Env) (σ : St) (st : Stmt) (Q : Fl → St → Prop) : Prop := ∀ ok A s E, Room n A → G.base.StaysIn s.heap → Inv G.base ok env σ s.heap →
  wpAny G.M A (exec st env) (After G env σ ok s Q) E s
theorem After.trans {ok : Addr → Prop} {σ₁ : St} {s s₁ s₂ : Shared} {Q : Fl → St → Prop} {f : Flow} (m : Mv G.base (Wr env σ) s s₁) (o : ∀ a ∈ owned σ₁, a ∈ owned σ ∨ s.heap.get? a = none) (a : After G env σ₁ ok s₁ Q f s₂)
    (z : ∀ b, s₁.heap.get? b = none → s.heap.get? b = none) : After G env σ ok s Q f s₂ := by
  obtain ⟨fl, σ', q, fi, i, m', k, o'⟩ := a
  refine ⟨fl, σ', q, fi, i, m.trans m' ?_, k, fun b hb => ?_⟩
  · rintro p (h | h)
    · exact .inl (.inl h)
    · exact (o p h).imp .inr id
  · rcases o' b hb with h | h
    · exact o b h
    · exact .inr (z b h)
theorem After.mono {ok : Addr → Prop} {s s' : Shared} {Q Q' : Fl → St → Prop} {f : Flow} (a : After G env σ ok s Q f s') (h : ∀ fl σ', Q fl σ' → Q' fl σ') : After G env σ ok s Q' f s' := by
  obtain ⟨fl, σ', q, r⟩ := a
  exact ⟨fl, σ', h _ _ q, r⟩
theorem Ex.mono {body : List Stmt} {Q Q' : Fl → St → Prop} (a : Ex G n env σ body Q) (h : ∀ fl σ', Q fl σ' → Q' fl σ') : Ex G n env σ body Q' := fun ok A s E r k i => wpAny_mono (a ok A s E r k i) (fun _ _ p => p.mono h) fun _ _ x => x
theorem Ex1.mono {st : Stmt} {Q Q' : Fl → St → Prop} (a : Ex1 G n env σ st Q) (h : ∀ fl σ', Q fl σ' → Q' fl σ') : Ex1 G n env σ st Q' := fun ok A s E r k i => wpAny_mono (a ok A s E r k i) (fun _ _ p => p.mono h) fun _ _ x => x
theorem Ex.nil {Q : Fl → St → Prop} (h : Q .next σ) : Ex G n env σ [] Q := fun ok A s E r k i => wpAny_execs_nil ⟨.next, σ, h, trivial, i, Stp.refl.mv, k, fun _ h => .inl h⟩
theorem Ex.cons {st : Stmt} {rest : List Stmt} {Q : Fl → St → Prop} (h : Ex1 G n env σ st fun fl σ' => match fl with | .next => Ex G n env σ' rest Q | fl => Q fl σ') : Ex G n env σ (st :: rest) Q := fun ok A s E r k i =>
  wpAny_execs_cons (wpAny_mono (h ok A s E r k i) (fun f s' a => by
    obtain ⟨fl, σ', q, fi, i', m, k', o⟩ := a
    cases f <;> cases fl <;> first | exact fi.elim | skip
    · exact wpAny_mono (q ok A s' E r k' i') (fun _ _ a => a.trans m o m.dom) fun _ _ x => x
    · exact ⟨.brk, σ', q, trivial, i', m, k', o⟩
    · exact ⟨.cont, σ', q, trivial, i', m, k', o⟩
    · exact ⟨.ret _, σ', q, fi, i', m, k', o⟩) fun _ _ x => x)
/-- a statement that only steps on to a state -/
theorem Ex.step {st : Stmt} {rest : List Stmt} {Q : Fl → St → Prop} {P : St → Prop} (h : Ex1 G n env σ st fun fl σ' => fl = .next ∧ P σ') (hr : ∀ σ', P σ' → Ex G n env σ' rest Q) : Ex G n env σ (st :: rest) Q :=
  .cons (h.mono fun fl σ' p => by obtain ⟨rfl, p⟩ := p; exact hr σ' p)
theorem Ex.one {st : Stmt} {rest : List Stmt} {Q : Fl → St → Prop} {σ' : St} (h : Ex1 G n env σ st fun fl σ'' => fl = .next ∧ σ'' = σ') (hr : Ex G n env σ' rest Q) : Ex G n env σ (st :: rest) Q :=
  .step h fun _ e => e ▸ hr
/-- a name of the frame that may be stored -/
def Storable (env : Env) (x : Str) : Prop := env.kindOf x = some .local ∨ (env.kindOf x = some .cell ∧ (env.cells.lookup x).isSome = true)
theorem cells_inj {cs : List (Str × Addr)} (hp : cs.Pairwise fun x y => x.2 ≠ y.2) {x y : Str} {c : Addr} (hx : cs.lookup x = some c) (hy : cs.lookup y = some c) : x = y :=
  name_of_addr hp (mem_of_lookup hx) (mem_of_lookup hy)
theorem wpAny_store {M : Model} {A : Around} {E : Value → Shared → Prop} {s : Shared} {base : Heap} {x : Str} {v : Value} {Q : Unit → Shared → Prop} (F : Frame env s.heap) (hx : Storable env x)
    (h : ∀ s', Holds env s'.heap x v → (∀ y u, y ≠ x → Holds env s.heap y u → Holds env s'.heap y u) → Frame env s'.heap → Mv base (FrW env) s s' → Q () s') : wpAny M A (storeName env x v) Q E s := by
  rcases hx with hk | ⟨hk, hc⟩
  · obtain ⟨m, hn⟩ := F.ns
    refine wpAny_storeName_local hk hn (fun h' hn' hs' => ?_) (by rw [F.kind]; rfl)
    have hL : ∃ o, h'.get? env.locals = some o := let ⟨o, _, _, q, _⟩ := hn'; ⟨o, q⟩
    have keep : ∀ b, b ≠ env.locals → h'.get? b = s.heap.get? b := fun b hb => hs'.2 b hb
    refine h _ (.inl ⟨hk, _, hn', by simp⟩) (fun y u hy q => ?_) ⟨F.kind, ⟨_, hn'⟩, fun z c l => ?_, F.apart, F.away, F.glob, F.blt⟩ ⟨fun b o w e => ⟨o, (keep b fun q => w (.inl q)).trans e, rfl, rfl, fun _ => rfl⟩, fun b e => ?_, rfl, .refl⟩
    · rcases q with ⟨k, m', n', r⟩ | ⟨k, c, l, r⟩
      · refine .inl ⟨k, _, hn', ?_⟩
        have : m' y = m y := by
          obtain ⟨o, es, ep, q1, q2, _, q3⟩ := n'
          obtain ⟨o₂, es₂, ep₂, p1, p2, _, p3⟩ := hn
          rw [q1] at p1; cases p1; rw [q2] at p2; cases p2
          rw [← q3, ← p3]
        simp [hy, ← this, r]
      · exact .inr ⟨k, c, l, r.sameBut hs' (F.away y c l)⟩
    · obtain ⟨u, q⟩ := F.cells z c l
      exact ⟨u, q.sameBut hs' (F.away z c l)⟩
    · by_cases hb : b = env.locals
      · obtain ⟨o, q⟩ := hL
        have e' : h'.get? b = none := e
        rw [hb, q] at e'; cases e'
      · rw [← keep b hb]; exact e
  · obtain ⟨c, hc⟩ := Option.isSome_iff_exists.mp hc
    obtain ⟨u₀, hcell⟩ := F.cells x c hc
    refine wpAny_storeName_cell F.kind hk hc hcell fun h' hc' hs' => ?_
    have keep : ∀ b, b ≠ c → h'.get? b = s.heap.get? b := fun b hb => hs'.2 b hb
    obtain ⟨m, hn⟩ := F.ns
    refine h _ (.inr ⟨.inl hk, c, hc, hc'⟩) (fun y u hy q => ?_) ⟨F.kind, ⟨m, hn.sameBut hs' (Ne.symm (F.away x c hc))⟩, fun z c' l => ?_, F.apart, F.away, F.glob, F.blt⟩ ⟨fun b o w e => ⟨o, (keep b fun q => w (.inr ⟨x, q ▸ hc⟩)).trans e, rfl, rfl, fun _ => rfl⟩, fun b e => ?_, rfl, .refl⟩
    · rcases q with ⟨k, m', n', r⟩ | ⟨k, c', l, r⟩
      · exact .inl ⟨k, m', n'.sameBut hs' (Ne.symm (F.away x c hc)), r⟩
      · exact .inr ⟨k, c', l, r.sameBut hs' fun q => hy (cells_inj F.apart l (q ▸ hc))⟩
    · by_cases hz : c' = c
      · subst hz; exact ⟨_, hc'⟩
      · obtain ⟨u, q⟩ := F.cells z c' l
        exact ⟨u, q.sameBut hs' hz⟩
    · by_cases hb : b = c
      · obtain ⟨o, q, _⟩ := hc'
        have e' : h'.get? b = none := e
        rw [hb, q] at e'; cases e'
      · rw [← keep b hb]; exact e
end
end Mine
end
section
open PySem PySem.W PyProof.Rows PySem.Calls
set_option maxRecDepth 100000
namespace Mine
section
variable {G : Gr} {n : Nat} {env : Env} {σ : St}
theorem Inv.set_val {base : Heap} {ok : Addr → Prop} {s s' : Shared} {x : Str} {v : Value} {d : D} (i : Inv base ok env σ s.heap) (m : Mv base (FrW env) s s') (F : Frame env s'.heap) (hx : Holds env s'.heap x v)
    (ho : ∀ y u, y ≠ x → Holds env s.heap y u → Holds env s'.heap y u) (r : Rep (okO ok σ) s.heap v d) : Inv base ok env (setS x (.val d) σ) s'.heap := by
  have nf : ∀ {P : Addr → Prop} a, P a → IsNode s.heap a → ¬ FrW env a := fun a _ q => node_not_frame i.frame q
  have up : ∀ a, okO ok σ a → okO ok (setS x (.val d) σ) a := fun a q => ⟨q.1, fun z => q.2 (owned_setS_val z)⟩
  refine ⟨F, fun a w => i.off a (w.imp id fun z => owned_setS_val z), fun b e => i.fresh b (m.dom b e), fun y e l => ?_, fun y a ds l => ?_, fun a h => ?_, nodup_setS_val i.once⟩
  · by_cases hy : y = x
    · subst hy
      rw [lookup_setS_self] at l; cases l
      exact ⟨v, hx, r.extBut m.ext nf fun a q _ => up a q⟩
    · rw [lookup_setS_ne hy] at l
      obtain ⟨u, p, q⟩ := i.vals y e l
      exact ⟨u, ho y u hy p, q.extBut m.ext nf fun a q _ => up a q⟩
  · by_cases hy : y = x
    · subst hy; rw [lookup_setS_self] at l; cases l
    · rw [lookup_setS_ne hy] at l
      obtain ⟨p, q, vs, lst, rs⟩ := i.owns y a ds l
      exact ⟨ho y _ hy p, q, vs, m.ext.own (node_not_frame i.frame (.list lst.list)) lst, rs.extBut m.ext nf fun a q _ => up a q⟩
  · obtain ⟨vs, lst⟩ := i.there a (owned_setS_val h)
    exact ⟨vs, m.ext.own (node_not_frame i.frame (.list lst.list)) lst⟩
theorem Mv.weak {base : Heap} {W W' : Addr → Prop} {s s' : Shared} (x : Mv base W s s') (h : ∀ a, W a → W' a) : Mv base W' s s' := ⟨fun b o n e => x.ext b o (fun q => n (h b q)) e, x.dom, x.os, x.gens⟩
/-- x = e -/
theorem Ex1.assign {x : Str} {e : Expr} {p pos : Pos} {d : D} (h : Ev G n env σ e d) (hx : Storable env x) (hs : swapsWith e (some (.Name x p)) pos.line env = pure false := by rfl) :
    Ex1 G n env σ (.Assign [.Name x p] e pos) fun fl σ' => fl = .next ∧ σ' = setS x (.val d) σ := fun ok A s E r k i =>
  wpAny_Assign_Name (wpAny_mono (h ok A s E r k i) (fun v s₁ p₁ => by
    have i₁ := i.ext p₁.1.ext
    refine wpAny_store (base := G.base) i₁.frame hx fun s₂ hv ho F m => ?_
    have m' : Mv G.base (Wr env σ) s s₂ := (p₁.1.mv (W := Wr env σ)).trans (m.weak fun _ w => Or.inl w) fun _ w => .inl w
    exact ⟨.next, _, ⟨rfl, rfl⟩, trivial, i₁.set_val m F hv ho p₁.2, m', m'.base k i.off, fun a w => .inl (owned_setS_val w)⟩) fun _ _ x => x) hs
/-- an expression that makes a list -/
def EvF (G : Gr) (n : Nat) (env : Env) (σ : St) (e : Expr) (ds : List D) : Prop := ∀ ok A s E, Room n A → G.base.StaysIn s.heap → Inv G.base ok env σ s.heap →
  wpAny G.M A (eval e env) (fun v s' => Stp G.base s s' ∧ ∃ a vs, v = .ref a ∧ s.heap.get? a = none ∧ OwnL s'.heap a vs ∧ RepAll (fun b => okO ok σ b ∧ b ≠ a) s'.heap vs ds) E s
theorem EvF.ev {e : Expr} {ds : List D} (h : EvF G n env σ e ds) : Ev G n env σ e (.list ds) := fun ok A s E r k i =>
  wpAny_mono (h ok A s E r k i) (fun v s' p => by
    obtain ⟨st, a, vs, rfl, f, l, rs⟩ := p
    exact ⟨st, .list (i.freshO a f) l.list (rs.weak fun _ q => q.1)⟩) fun _ _ x => x
theorem EvF.list {es : List Expr} {p : Pos} {ds : List D} (h : EvL G n env σ es ds) (hz : ds.length ≤ sizeLine) : EvF G n env σ (.List es p) ds := fun ok A s E r k i =>
  List_ (wpAny_mono (h ok A s E p r k i) (fun vs s₁ p₁ => by
    refine wpAny_newObj_type ?_ (by show vs.toArray.size ≤ sizeLine; rw [List.size_toArray, p₁.2.length]; exact hz)
    have st : Stp G.base s₁ { s₁ with heap := s₁.heap.push { cls := .type "list", data := .seq vs.toArray } } := .push
    refine ⟨p₁.1.trans st, _, vs, rfl, p₁.1.ext.none fresh_get, ⟨_, Heap.get?_push_size _ rfl⟩, p₁.2.ext st.ext fun b q z => ⟨q, fun e => ?_⟩⟩
    rw [e, fresh_get] at z; cases z) fun _ _ x => x)
/-- a new list is stored, x from now on the frame's own to fill -/
theorem After.own {x : Str} {a : Addr} {vs : List Value} {ds : List D} {ok : Addr → Prop} {s s₁ s₂ : Shared} (k : G.base.StaysIn s.heap) (i : Inv G.base ok env σ s.heap) (st : Stp G.base s s₁) (f : s.heap.get? a = none) (l : OwnL s₁.heap a vs) (rs : RepAll (fun b => okO ok σ b ∧ b ≠ a) s₁.heap vs ds)
    (hv : Holds env s₂.heap x (.ref a)) (ho : ∀ y u, y ≠ x → Holds env s₁.heap y u → Holds env s₂.heap y u) (F : Frame env s₂.heap) (m : Mv G.base (FrW env) s₁ s₂) :
    Inv G.base ok env (setS x (.own a ds) σ) s₂.heap ∧ Mv G.base (Wr env σ) s s₂ ∧ G.base.StaysIn s₂.heap ∧ ∀ b ∈ owned (setS x (.own a ds) σ), b ∈ owned σ ∨ b = a := by
    have i₁ := i.ext st.ext
    have m' : Mv G.base (Wr env σ) s s₂ := (st.mv (W := Wr env σ)).trans (m.weak fun _ w => Or.inl w) fun _ w => .inl w
    have hno : a ∉ owned σ := fun w => by obtain ⟨_, _, q⟩ := i.there a w; rw [f] at q; cases q
    have hb : G.base.get? a = none := by
      cases q : G.base.get? a with
      | none => rfl
      | some o => rw [k a o q] at f; cases f
    have old : ∀ b, (s.heap.get? b).isSome = true → b ≠ a := fun b q e => by rw [e, f] at q; cases q
    refine ⟨?_, m', m'.base k i.off, fun b w => (owned_setS_sub w).imp id fun w => List.mem_singleton.mp w⟩
    have hax : Inv G.base ok env σ s.heap := i
    -- the trees of the other names stood before the list was made
    have i₀ : Inv G.base (fun b => ok b ∧ b ≠ a) env σ s₁.heap := by
      refine ⟨i₁.frame, i₁.off, fun b e => ⟨i₁.fresh b e, fun q => ?_⟩, fun y d l' => ?_, fun y b es l' => ?_, i₁.there, i₁.once⟩
      · obtain ⟨_, q'⟩ := l; rw [← q, e] at q'; cases q'
      · obtain ⟨u, p, q⟩ := i.vals y d l'
        exact ⟨u, p.ext st.ext, q.ext st.ext fun b w z => ⟨⟨w.1, old b z⟩, w.2⟩⟩
      · obtain ⟨p, q, us, w, t⟩ := i.owns y b es l'
        exact ⟨p.ext st.ext, ⟨q, old b w.some⟩, us, st.ext.own w, t.ext st.ext fun b w z => ⟨⟨w.1, old b z⟩, w.2⟩⟩
    have up : ∀ b, okO (fun b => ok b ∧ b ≠ a) σ b → okO ok (setS x (.own a ds) σ) b := fun b q => ⟨q.1.1, fun z => (owned_setS_sub z).elim q.2 fun w => q.1.2 (List.mem_singleton.mp w)⟩
    have nf : ∀ {P : Addr → Prop} a, P a → IsNode s₁.heap a → ¬ FrW env a := fun a _ q => node_not_frame i₁.frame q
    have lst' : ∀ {b us}, OwnL s₁.heap b us → OwnL s₂.heap b us := fun {b us} lst => m.ext.own (node_not_frame i₁.frame (.list lst.list)) lst
    refine ⟨F, fun b w => ?_, fun b e => i₁.fresh b (m.dom b e), fun y e l' => ?_, fun y b es l' => ?_, fun b h => ?_, nodup_setS_own i.once (.inl hno)⟩
    · rcases w with w | w
      · exact i.off b (.inl w)
      · rcases owned_setS_sub w with w | w
        · exact i.off b (.inr w)
        · rw [List.mem_singleton.mp w]; exact hb
    · by_cases hy : y = x
      · subst hy; rw [lookup_setS_self] at l'; cases l'
      · rw [lookup_setS_ne hy] at l'
        obtain ⟨u, p, q⟩ := i₀.vals y e l'
        exact ⟨u, ho y u hy p, q.extBut m.ext nf fun b q _ => up b q⟩
    · by_cases hy : y = x
      · subst hy
        rw [lookup_setS_self] at l'; cases l'
        exact ⟨hv, i.fresh a f, vs, lst' l, rs.extBut m.ext nf fun b q _ => up b ⟨⟨q.1.1, q.2⟩, q.1.2⟩⟩
      · rw [lookup_setS_ne hy] at l'
        obtain ⟨p, q, us, lst, r⟩ := i₀.owns y b es l'
        exact ⟨ho y _ hy p, q.1, us, lst' lst, r.extBut m.ext nf fun b q _ => up b q⟩
    · rcases owned_setS_sub h with h | h
      · exact (i₁.there b h).imp fun _ => lst'
      · rw [List.mem_singleton.mp h]; exact ⟨_, lst' l⟩
/-- x = [..], x from now on the frame's own to fill -/
theorem Ex1.assignF {x : Str} {e : Expr} {p pos : Pos} {ds : List D} (h : EvF G n env σ e ds) (hx : Storable env x) (hs : swapsWith e (some (.Name x p)) pos.line env = pure false := by rfl) :
    Ex1 G n env σ (.Assign [.Name x p] e pos) fun fl σ' => fl = .next ∧ ∃ a, σ' = setS x (.own a ds) σ := fun ok A s E r k i =>
  wpAny_Assign_Name (wpAny_mono (h ok A s E r k i) (fun v s₁ p₁ => by
    obtain ⟨st, a, vs, rfl, f, l, rs⟩ := p₁
    refine wpAny_store (base := G.base) (i.ext st.ext).frame hx fun s₂ hv ho F m => ?_
    obtain ⟨i', m', k', o'⟩ := After.own k i st f l rs hv ho F m
    exact ⟨.next, _, ⟨rfl, a, rfl⟩, trivial, i', m', k', fun b w => (o' b w).imp id fun w => by rw [w]; exact f⟩) fun _ _ x => x) hs
theorem Ex1.ret {e : Expr} {pos : Pos} {d : D} {Q : Fl → St → Prop} (h : EvB G n env σ e d) (q : Q (.ret d) σ) : Ex1 G n env σ (.Return (some e) pos) Q := fun ok A s E r k i =>
  wpAny_Return_some (wpAny_mono (h ok A s E r k i) (fun v s₁ p₁ => ⟨.ret d, σ, q, p₁.2, i.ext p₁.1.ext, p₁.1.mv, p₁.1.ext.base k, fun _ w => .inl w⟩) fun _ _ x => x)
theorem Ex1.ite {t : Expr} {a b : List Stmt} {pos : Pos} {c : Bool} {Q : Fl → St → Prop} (h : Tr G n env σ t c) (ha : c = true → Ex G n env σ a Q) (hb : c = false → Ex G n env σ b Q) : Ex1 G n env σ (.If t a b pos) Q := fun ok A s E r k i =>
  wpAny_If (wpAny_mono (h ok A s E r k i) (fun c' s₁ p₁ => by
    obtain ⟨st, rfl⟩ := p₁
    have go : ∀ body, Ex G n env σ body Q → wpAny G.M A (execs body env) (After G env σ ok s Q) E s₁ := fun body hq =>
      wpAny_mono (hq ok A s₁ E r (st.ext.base k) (i.ext st.ext)) (fun _ _ a => a.trans st.mv (fun _ w => .inl w) fun b e => st.ext.none e) fun _ _ x => x
    cases c' with
    | true => exact go _ (ha rfl)
    | false => exact go _ (hb rfl)) fun _ _ x => x)
end
end Mine
end
section
open PySem PySem.W PyProof.Rows PySem.Calls
set_option maxRecDepth 100000
namespace Mine
section
variable {G : Gr} {n : Nat} {env : Env} {σ : St}
theorem owned_setS_same {x : Str} {a : Addr} {ds es : List D} (l : σ.lookup x = some (.own a ds)) : owned (setS x (.own a es) σ) = owned σ := by
  obtain ⟨l₁, l₂, l₃, h1, h2, h3⟩ := owned_setS x (.own a es) σ
  rw [h1, h2, h3 _ l]; rfl
/-- the frame's own list is filled on -/
theorem Inv.upd {base : Heap} {ok : Addr → Prop} {s : Shared} {h' : Heap} {x : Str} {a : Addr} {vs : List Value} {ds ds' : List D} (i : Inv base ok env σ s.heap) (l : σ.lookup x = some (.own a ds))
    (hs : Heap.SameBut a s.heap h') (hl : OwnL h' a vs) (rs : RepAll (okO ok σ) s.heap vs ds') : Inv base ok env (setS x (.own a ds') σ) h' ∧ ∀ tk, Mv base (Wr env σ) s { s with heap := h', toks := tk } := by
  have hm := owned_of_lookup l
  obtain ⟨us, hus⟩ := i.there a hm
  have nfa : ¬ FrW env a := node_not_frame i.frame (.list hus.list)
  have keep : ∀ b, b ≠ a → h'.get? b = s.heap.get? b := fun b hb => hs.2 b hb
  have X : ExtBut base (· = a) s.heap h' := fun b o w e => ⟨o, (keep b w).trans e, rfl, rfl, fun _ => rfl⟩
  have nf : ∀ b, okO ok σ b → IsNode s.heap b → ¬ (b = a) := fun b q _ e => q.2 (e ▸ hm)
  have eo := owned_setS_same (es := ds') l
  have hok : okO ok (setS x (.own a ds') σ) = okO ok σ := by funext b; unfold okO; rw [eo]
  have hh : ∀ y v, Holds env s.heap y v → Holds env h' y v := fun y v q => by
    rcases q with ⟨k, m, hn, r⟩ | ⟨k, c, hc, r⟩
    · exact .inl ⟨k, m, hn.sameBut hs fun e => nfa (.inl e.symm), r⟩
    · exact .inr ⟨k, c, hc, r.sameBut hs fun e => nfa (.inr ⟨y, e ▸ hc⟩)⟩
  have dom : ∀ b, h'.get? b = none → s.heap.get? b = none := fun b e => by
    by_cases hb : b = a
    · have := hl.some; rw [← hb, e] at this; cases this
    · rw [← keep b hb]; exact e
  refine ⟨⟨⟨i.frame.kind, ?_, fun y c q => ?_, i.frame.apart, i.frame.away, i.frame.glob, i.frame.blt⟩, fun b w => i.off b (w.imp id fun w => eo ▸ w), fun b e => i.fresh b (dom b e), fun y d q => ?_, fun y b es q => ?_, fun b w => ?_, eo ▸ i.once⟩, fun tk => ⟨fun b o w e => X b o (fun q => w (.inr (q ▸ hm))) e, dom, rfl, .refl⟩⟩
  · obtain ⟨m, hn⟩ := i.frame.ns
    exact ⟨m, hn.sameBut hs fun e => nfa (.inl e.symm)⟩
  · obtain ⟨v, hv⟩ := i.frame.cells y c q
    exact ⟨v, hv.sameBut hs fun e => nfa (.inr ⟨y, e ▸ q⟩)⟩
  · rw [hok]
    by_cases hy : y = x
    · subst hy; rw [lookup_setS_self] at q; cases q
    · rw [lookup_setS_ne hy] at q
      obtain ⟨u, p, r⟩ := i.vals y d q
      exact ⟨u, hh y u p, r.extBut X nf fun _ w _ => w⟩
  · rw [hok]
    by_cases hy : y = x
    · subst hy
      rw [lookup_setS_self] at q; cases q
      obtain ⟨p, o, _⟩ := i.owns y a ds l
      exact ⟨hh y _ p, o, vs, hl, rs.extBut X nf fun _ w _ => w⟩
    · rw [lookup_setS_ne hy] at q
      obtain ⟨p, o, ws, lw, rw'⟩ := i.owns y b es q
      have hne : b ≠ a := fun e => by
        subst e
        -- two names own the same list: not so
        have h1 : b ∉ owned (setS x (.val .none) σ) := notMem_setS_val i.once l
        exact h1 (owned_of_lookup (x := y) (ds := es) (by rw [lookup_setS_ne hy]; exact q))
      exact ⟨hh y _ p, o, ws, X.own hne lw, rw'.extBut X nf fun _ w _ => w⟩
  · rw [eo] at w
    by_cases hb : b = a
    · subst hb; exact ⟨vs, hl⟩
    · obtain ⟨ws, lw⟩ := i.there b w
      exact ⟨ws, X.own hb lw⟩
/-- x.append(e) -/
theorem Ex1.append {x : Str} {p1 p2 p3 pos : Pos} {e : Expr} {a : Addr} {ds : List D} {d : D} (l : σ.lookup x = some (.own a ds)) (h : Ev G n env σ e d) (hz : ds.length < sizeLine)
    (hd : (x == ("__debug__" : Str)) = false := by decide) (hc : (x == ("__classdict__" : Str)) = false := by decide)
    (hs : swapsWith (.Call (.Attribute (.Name x p1) "append" p2) [e] [] p3) none pos.line env = pure false := by rfl)
    (he1 : starEach [e] env = [(false, eval e env)] := by rfl)
    {pl : Sem Bool} (he : eval (.Call (.Attribute (.Name x p1) "append" p2) [e] [] p3) env = (do
      let ov ← eval (.Name x p1) env
      standAt p2.atName
      let (f, first) ← holding [ov] (getMethod ov "append" pl)
      callWith p3 f first (backTo p3 (starEach [e] env)) []) := by rfl) :
    Ex1 G n env σ (.Expr (.Call (.Attribute (.Name x p1) "append" p2) [e] [] p3) pos) fun fl σ' => fl = .next ∧ σ' = setS x (.own a (ds ++ [d])) σ := fun ok A s E r k i => by
  obtain ⟨q, o, vs, lv, rs⟩ := i.owns x a ds l
  refine wpAny_Expr (MethodCall_ (pl := pl) (wpAny_holds i.frame.kind q ?_ hd hc) he) (by unfold interactive; rw [i.frame.kind]; rfl) hs
  obtain ⟨m, hm⟩ := lv
  refine getMethod_list_append hm rfl rfl ?_
  refine callWith_callee (.builtin _) (by rw [he1]; rfl) (G := G) ?_ (by cases e <;> first | rfl | cases he1)
  refine PyProof.Rows.args_cons (wpAny_mono (h ok A s E r k i) (fun v s₁ p₁ => PyProof.Rows.args_nil ?_) fun _ _ x => x) he1
  have k₁ := p₁.1.ext.base k
  have i₁ := i.ext p₁.1.ext
  refine ⟨k₁, ?_⟩
  obtain ⟨m₁, hm₁⟩ := p₁.1.ext.own ⟨m, hm⟩
  refine append_at (hsz := by rw [List.size_toArray, rs.length]; omega) hm₁ fun h' hs' hl' => ?_
  have hl : OwnL h' a (vs ++ [v]) := ⟨m₁ + 1, by rw [hl']; simp⟩
  obtain ⟨i', m'⟩ := i₁.upd l hs' hl ((rs.stp p₁.1).append (.cons p₁.2 .nil))
  have mv := (p₁.1.mv (W := Wr env σ)).trans (m' s₁.toks) fun _ w => .inl w
  exact ⟨.next, _, ⟨rfl, rfl⟩, trivial, i', mv, mv.base k i.off, fun b w => .inl (owned_setS_same (es := ds ++ [d]) l ▸ w)⟩
theorem lookup_some_of_setS {x y : Str} {s t : Slot} (h : (setS x s σ).lookup y = some t) (n : y ≠ x) : σ.lookup y = some t := by rwa [lookup_setS_ne n] at h
/-- the own list is left as it is from here on: a value as any other -/
theorem Inv.freeze {base : Heap} {ok : Addr → Prop} {h : Heap} {x : Str} {a : Addr} {ds : List D} (i : Inv base ok env σ h) (l : σ.lookup x = some (.own a ds)) : Inv base ok env (setS x (.val (.list ds)) σ) h := by
  have up : ∀ b, okO ok σ b → okO ok (setS x (.val (.list ds)) σ) b := fun b q => ⟨q.1, fun z => q.2 (owned_setS_val z)⟩
  refine ⟨i.frame, fun b w => i.off b (w.imp id owned_setS_val), i.fresh, fun y d q => ?_, fun y b es q => ?_, fun b w => i.there b (owned_setS_val w), nodup_setS_val i.once⟩
  · by_cases hy : y = x
    · subst hy
      rw [lookup_setS_self] at q; cases q
      obtain ⟨p, o, vs, lv, rs⟩ := i.owns y a ds l
      exact ⟨_, p, .list ⟨o, notMem_setS_val i.once l⟩ lv.list (rs.weak up)⟩
    · obtain ⟨u, p, r⟩ := i.vals y d (lookup_some_of_setS q hy)
      exact ⟨u, p, r.weak up⟩
  · by_cases hy : y = x
    · subst hy; rw [lookup_setS_self] at q; cases q
    · obtain ⟨p, o, vs, lv, rs⟩ := i.owns y b es (lookup_some_of_setS q hy)
      exact ⟨p, o, vs, lv, rs.weak up⟩
theorem After.sub {ok : Addr → Prop} {s s' : Shared} {σ' : St} {Q : Fl → St → Prop} {f : Flow} (h : ∀ b ∈ owned σ', b ∈ owned σ) (a : After G env σ' ok s Q f s') : After G env σ ok s Q f s' := by
  obtain ⟨fl, σ₂, q, fi, i, m, k, o⟩ := a
  exact ⟨fl, σ₂, q, fi, i, m.weak fun b w => w.imp id (h b), k, fun b w => (o b w).imp (h b) id⟩
theorem Ex.freeze {x : Str} {a : Addr} {ds : List D} {body : List Stmt} {Q : Fl → St → Prop} (l : σ.lookup x = some (.own a ds)) (h : Ex G n env (setS x (.val (.list ds)) σ) body Q) : Ex G n env σ body Q := fun ok A s E r k i =>
  wpAny_mono (h ok A s E r k (i.freeze l)) (fun _ _ a => a.sub fun b w => owned_setS_val w) fun _ _ x => x
/-- forgetting -/
def Sub : St → St → Prop
  | [], _ => True
  | (x, s) :: r, σ => σ.lookup x = some s ∧ Sub r σ
theorem Sub.get {σ₀ : St} : ∀ {σ₁ : St}, Sub σ₀ σ₁ → ∀ {x : Str} {s : Slot}, σ₀.lookup x = some s → σ₁.lookup x = some s := by
  induction σ₀ with
  | nil => intro _ _ x s h; cases h
  | cons y r ih =>
    intro σ₁ hs x s h
    obtain ⟨y, t⟩ := y
    rw [List.lookup_cons] at h
    cases e : x == y with
    | true => rw [e] at h; cases h; rw [beq_iff_eq.mp e]; exact hs.1
    | false => rw [e] at h; exact ih hs.2 h
theorem Sub.owned {σ₀ σ₁ : St} (h : Sub σ₀ σ₁) : ∀ a ∈ owned σ₀, a ∈ owned σ₁ := by
  induction σ₀ with
  | nil => intro a w; cases w
  | cons y r ih =>
    obtain ⟨y, t⟩ := y
    intro a w
    rw [owned_cons] at w
    rcases List.mem_append.mp w with w | w
    · cases t with
      | val d => cases w
      | own b es => rw [List.mem_singleton.mp w]; exact owned_of_lookup h.1
    · exact ih h.2 a w
theorem Inv.sub {base : Heap} {ok : Addr → Prop} {h : Heap} {σ₀ : St} (i : Inv base ok env σ h) (hs : Sub σ₀ σ) (hn : (owned σ₀).Nodup) : Inv base ok env σ₀ h := by
  have up : ∀ b, okO ok σ b → okO ok σ₀ b := fun b q => ⟨q.1, fun z => q.2 (hs.owned b z)⟩
  exact ⟨i.frame, fun b w => i.off b (w.imp id (hs.owned b)), i.fresh, fun y d q => let ⟨u, p, r⟩ := i.vals y d (hs.get q); ⟨u, p, r.weak up⟩,
    fun y b es q => let ⟨p, o, vs, lv, rs⟩ := i.owns y b es (hs.get q); ⟨p, o, vs, lv, rs.weak up⟩, fun b w => i.there b (hs.owned b w), hn⟩
end
end Mine
end
section
open PySem PySem.W PyProof.Rows PySem.Calls
set_option maxRecDepth 100000
namespace Mine
section
variable {G : Gr} {n : Nat} {env : Env} {σ : St}
theorem RepAll.mv {base : Heap} {ok ok' : Addr → Prop} {s s' : Shared} {vs : List Value} {ds : List D} (i : Inv base ok env σ s.heap) (m : Mv base (Wr env σ) s s') (r : RepAll (okO ok σ) s.heap vs ds) (k : ∀ b, okO ok σ b → ok' b) : RepAll ok' s'.heap vs ds :=
  r.extBut m.ext (fun a q w z => z.elim (node_not_frame i.frame w) q.2) fun b q _ => k b q
/-- a target takes a value -/
def AssD (G : Gr) (n : Nat) (env : Env) (t : Expr) (d : D) (f : St → St) : Prop := ∀ σ ok A s E v, Room n A → G.base.StaysIn s.heap → Inv G.base ok env σ s.heap → Rep (okO ok σ) s.heap v d →
  wpAny G.M A (assign t env v) (fun _ s' => Inv G.base ok env (f σ) s'.heap ∧ Mv G.base (Wr env σ) s s' ∧ ∀ b ∈ owned (f σ), b ∈ owned σ) E s
theorem AssD.name {x : Str} {p : Pos} {d : D} (hx : Storable env x) : AssD G n env (.Name x p) d (setS x (.val d)) := fun σ ok A s E v r k i rp =>
  wpAny_assign_Name (wpAny_store (base := G.base) i.frame hx fun s' hv ho F m => ⟨i.set_val m F hv ho rp, m.weak fun _ w => .inl w, fun b w => owned_setS_val w⟩)
/-- a row of targets takes a row of values -/
def AssL (G : Gr) (n : Nat) (env : Env) (ts : List Expr) (ds : List D) (f : St → St) : Prop := ∀ σ ok A s E vs, Room n A → G.base.StaysIn s.heap → Inv G.base ok env σ s.heap → RepAll (okO ok σ) s.heap vs ds →
  wpAny G.M A (assignInOrder ((assignEach ts env).map (·.2)) vs) (fun _ s' => Inv G.base ok env (f σ) s'.heap ∧ Mv G.base (Wr env σ) s s' ∧ ∀ b ∈ owned (f σ), b ∈ owned σ) E s
theorem AssL.nil : AssL G n env [] [] id := fun σ ok A s E vs r k i rs => by
  cases rs
  exact wpAny_pure ⟨i, Stp.refl.mv, fun _ h => h⟩
theorem AssL.cons {t : Expr} {ts : List Expr} {d : D} {ds : List D} {f g : St → St} (h : AssD G n env t d f) (hs : AssL G n env ts ds g) (he : assignEach (t :: ts) env = (false, assign t env) :: assignEach ts env := by rfl) :
    AssL G n env (t :: ts) (d :: ds) (fun σ => g (f σ)) := fun σ ok A s E vs r k i rs => by
  cases rs with
  | cons a rest =>
    rw [he]
    refine wpAny_bind (wpAny_holding (wpAny_mono (h σ ok A s E _ r k i a) (fun _ s₁ p₁ => ?_) fun _ _ x => x))
    have up : ∀ b, okO ok σ b → okO ok (f σ) b := fun b q => ⟨q.1, fun z => q.2 (p₁.2.2 b z)⟩
    refine wpAny_mono (hs (f σ) ok A s₁ E _ r (p₁.2.1.base k i.off) p₁.1 (rest.mv i p₁.2.1 up)) (fun _ s₂ p₂ => ⟨p₂.1, p₁.2.1.trans p₂.2.1 fun b w => .inl (w.imp id (p₁.2.2 b)), fun b w => p₁.2.2 b (p₂.2.2 b w)⟩) fun _ _ x => x
theorem assignEach_length (ts : List Expr) : (assignEach ts env).length = ts.length := by
  induction ts with
  | nil => rfl
  | cons t r ih => cases t <;> simp [assignEach, ih]
theorem AssD.tuple {ts : List Expr} {k : Nat} {p : Pos} {ds : List D} {f : St → St} (h : AssL G n env ts ds f) (hn : ts.length = ds.length) (hstar : (assignEach ts env).findIdx? (·.1) = none := by rfl) : AssD G n env (.Tuple ts k p) (.tuple ds) f := fun σ ok A s E v r k i rp => by
  cases rp with
  | tuple o l rs =>
    refine assign_Tuple_tuple r.handled l (by rw [assignEach_length, hn, List.size_toArray, rs.length]) hstar fun h' he => ?_
    have st : Stp G.base s { s with heap := h' } := ⟨.of_stays fun b o e => he b o (Nat.ne_of_lt (Heap.lt_size e)) e, rfl, .refl⟩
    refine wpAny_mono (h σ ok A { s with heap := h' } E _ r (st.ext.base k) (i.ext st.ext) (rs.stp st)) (fun _ s₂ p₂ => ⟨p₂.1, (st.mv (W := Wr env σ)).trans p₂.2.1 fun _ w => .inl w, p₂.2.2⟩) fun _ _ x => x
/-- what an iterator does to the world: itself alone -/
structure MvI (base : Heap) (wr : Addr → Prop) (wg : Nat → Prop) (s s' : Shared) : Prop where
  ext : ExtBut base wr s.heap s'.heap
  dom : ∀ b, ¬ wr b → s'.heap.get? b = none → s.heap.get? b = none
  os : s'.os = s.os
  gkeep : ∀ (i : Nat) (x : GenState), ¬ wg i → s.gens[i]? = some x → s'.gens[i]? = some x
  gbare : (∀ x ∈ s.gens, x.bare = true) → ∀ x ∈ s'.gens, x.bare = true
theorem MvI.after {base : Heap} {W wr : Addr → Prop} {wg : Nat → Prop} {s s₁ s₂ : Shared} (m : Mv base W s s₁) (i : MvI base wr wg s₁ s₂) (h : ∀ a, wr a → s.heap.get? a = none) (hg : ∀ g, wg g → s.gens[g]? = none) : Mv base W s s₂ := by
  refine ⟨fun b o w e => ?_, fun b e => ?_, i.os.trans m.os, ⟨fun j x e => i.gkeep j x (fun z => by rw [hg j z] at e; cases e) (m.gens.keep j x e), fun q => i.gbare (m.gens.bare q)⟩⟩
  · obtain ⟨o', e', c', d', k'⟩ := m.ext b o w e
    obtain ⟨o'', e'', c'', d'', k''⟩ := i.ext b o' (fun z => by rw [h b z] at e; cases e) e'
    refine ⟨o'', e'', c''.trans c', d''.trans d', fun q => ?_⟩
    have := k' q; subst this
    exact k'' q
  · by_cases z : wr b
    · exact h b z
    · exact m.dom b (i.dom b z e)
/-- an iterator at work: the items that are to come -/
structure Itr (G : Gr) (A : Around) (ok : Addr → Prop) (target : Expr) (I : Addr) (ds : List D) (fp wr : Addr → Prop) (wg : Nat → Prop) (Sx : Nat → Shared → Prop) : Prop where
  frame : ∀ i s s' W, Sx i s → Mv G.base W s s' → (∀ a, fp a → ¬ W a) → (∀ a, ok a → IsNode s.heap a → ¬ W a) → Sx i s'
  node : ∀ i s a, Sx i s → wr a → ¬ IsNode s.heap a ∧ (s.heap.get? a).isSome = true
  item : ∀ i d s E ok', ds[i]? = some d → Sx i s → G.base.StaysIn s.heap → (∀ a, ok a → ok' a) → FreshOk ok' s.heap → wpAny G.M A (pyNext (.ref I)) (fun r s₁ => ∃ v, r = some v ∧
    wpAny G.M A (letOwnedTupleGo target (.ref I) v) (fun _ s' => Rep ok' s'.heap v d ∧ Sx (i + 1) s' ∧ MvI G.base wr wg s s') E s₁) E s
  done : ∀ s E, Sx ds.length s → G.base.StaysIn s.heap → wpAny G.M A (pyNext (.ref I)) (fun r s' => r = none ∧ MvI G.base wr wg s s') E s
  self : ∀ i s (Q : Value → Shared → Prop) E, Sx i s → Q (.ref I) s → wpAny G.M A (pyIter (.ref I)) Q E s
/-- the head of a for: the expression gives an iterator over ds -/
def EvI (G : Gr) (n : Nat) (env : Env) (σ : St) (e target : Expr) (ds : List D) : Prop := ∀ ok A s E, Room n A → G.base.StaysIn s.heap → Inv G.base ok env σ s.heap →
  wpAny G.M A (eval e env) (fun x s₁ => wpAny G.M A (pyIter x) (fun it s' => Stp G.base s s' ∧ ∃ I fp wr wg Sx, it = .ref I ∧
    Itr G A (fun a => okO ok σ a ∧ (s'.heap.get? a).isSome = true) target I ds fp wr wg Sx ∧ Sx 0 s' ∧ (∀ a, fp a → (s'.heap.get? a).isSome = true ∧ ¬ Wr env σ a) ∧ (∀ a, wr a → s.heap.get? a = none ∧ fp a) ∧ ∀ g, wg g → s.gens[g]? = none) E s₁) E s
/-- an iterator's steps leave the frame's state -/
theorem Inv.mvI {base : Heap} {ok : Addr → Prop} {wr : Addr → Prop} {wg : Nat → Prop} {s s' : Shared} (i : Inv base ok env σ s.heap) (m : MvI base wr wg s s') (hf : ∀ a, wr a → ¬ Wr env σ a) (hn : ∀ a, wr a → ¬ IsNode s.heap a)
    (hd : ∀ b, wr b → ok b) : Inv base ok env σ s'.heap := by
  have nf : ∀ {P : Addr → Prop} a, P a → IsNode s.heap a → ¬ wr a := fun a _ q z => hn a z q
  have hh : ∀ y v, Holds env s.heap y v → Holds env s'.heap y v := fun y v q => by
    rcases q with ⟨k, mm, hns, r⟩ | ⟨k, c, hc, r⟩
    · obtain ⟨o, es, ep, e, d, rr⟩ := hns
      obtain ⟨o', e', _, d', _⟩ := m.ext _ o (fun z => hf _ z (.inl (.inl rfl))) e
      exact .inl ⟨k, mm, ⟨o', es, ep, e', d'.trans d, rr⟩, r⟩
    · obtain ⟨o, e, d⟩ := r
      obtain ⟨o', e', _, d', _⟩ := m.ext _ o (fun z => hf _ z (.inl (.inr ⟨y, hc⟩))) e
      exact .inr ⟨k, c, hc, o', e', d'.trans d⟩
  refine ⟨⟨i.frame.kind, ?_, fun y c q => ?_, i.frame.apart, i.frame.away, i.frame.glob, i.frame.blt⟩, i.off, fun b e => ?_, fun y d q => ?_, fun y b es q => ?_, fun b w => ?_, i.once⟩
  · obtain ⟨mm, o, es, ep, e, d, rr⟩ := i.frame.ns
    obtain ⟨o', e', _, d', _⟩ := m.ext _ o (fun z => hf _ z (.inl (.inl rfl))) e
    exact ⟨mm, o', es, ep, e', d'.trans d, rr⟩
  · obtain ⟨v, o, e, d⟩ := i.frame.cells y c q
    obtain ⟨o', e', _, d', _⟩ := m.ext _ o (fun z => hf _ z (.inl (.inr ⟨y, q⟩))) e
    exact ⟨v, o', e', d'.trans d⟩
  · by_cases z : wr b
    · exact hd b z
    · exact i.fresh b (m.dom b z e)
  · obtain ⟨u, p, r⟩ := i.vals y d q
    exact ⟨u, hh y u p, r.extBut m.ext nf fun _ w _ => w⟩
  · obtain ⟨p, o, vs, lv, rs⟩ := i.owns y b es q
    exact ⟨hh y _ p, o, vs, m.ext.own (fun z => hn b z (.list lv.list)) lv, rs.extBut m.ext nf fun _ w _ => w⟩
  · obtain ⟨vs, lv⟩ := i.there b w
    exact ⟨vs, m.ext.own (fun z => hn b z (.list lv.list)) lv⟩
theorem Ex1.for {target iter : Expr} {body : List Stmt} {pos : Pos} {ds : List D} {f : D → St → St} {Q : Fl → St → Prop} (hi : EvI G n env σ iter target ds) (ht : ∀ d ∈ ds, AssD G n env target d (f d)) (J : Nat → St → Prop) (h0 : J 0 σ)
    (turn : ∀ i d σ₁, ds[i]? = some d → J i σ₁ → Ex G n env (f d σ₁) body fun fl σ₂ => match fl with
      | .next | .cont => J (i + 1) σ₂
      | .brk => Q .next σ₂
      | .ret r => Q (.ret r) σ₂)
    (done : ∀ σ₁, J ds.length σ₁ → Q .next σ₁) (hs : ∀ x, foldedSetIterable iter env x = pure x := by intro _; rfl) : Ex1 G n env σ (.For target iter body [] pos) Q := fun ok A s E r k i => by
  refine wpAny_For (wpAny_mono (hi ok A s E r k i) (fun x s₁ p₁ => wpAny_mono p₁ (fun it s₂ p₂ => ?_) fun _ _ x => x) fun _ _ x => x) hs
  obtain ⟨st, I, fp, wr, wg, Sx, rfl, W, hst, hfp, hwr, hwg⟩ := p₂
  have i₂ := i.ext st.ext
  refine codeAny_forLoop_any (fun m s' => ∃ j σ₁, j ≤ ds.length ∧ m = ds.length + 1 - j ∧ J j σ₁ ∧ Sx j s' ∧ Inv G.base ok env σ₁ s'.heap ∧ Mv G.base (Wr env σ) s s' ∧ G.base.StaysIn s'.heap ∧
    (∀ a ∈ owned σ₁, a ∈ owned σ ∨ s₂.heap.get? a = none) ∧ ∀ b, ¬ wr b → s'.heap.get? b = none → s₂.heap.get? b = none) ?_ (ds.length + 1) ⟨0, σ, Nat.zero_le _, by omega, h0, hst, i₂, st.mv, st.ext.base k, fun a w => .inl w, fun _ _ e => e⟩
  rintro m s' ⟨j, σ₁, hj, rfl, hJ, hSx, hinv, hmv, hk, how, hdom⟩
  have hfpw : ∀ a, fp a → ¬ Wr env σ₁ a := fun a q w => by
    rcases w with w | w
    · exact (hfp a q).2 (.inl w)
    · rcases how a w with w | w
      · exact (hfp a q).2 (.inr w)
      · have := (hfp a q).1; rw [w] at this; cases this
  have hwr2 : ∀ a, wr a → ¬ Wr env σ₁ a := fun a q => hfpw a (hwr a q).2
  have hok1 : ∀ a, (okO ok σ a ∧ (s₂.heap.get? a).isSome = true) → okO ok σ₁ a := fun a q => ⟨q.1.1, fun w => (how a w).elim q.1.2 fun z => by rw [z] at q; cases q.2⟩
  by_cases hlt : j < ds.length
  · have hd : ds[j]? = some ds[j] := List.getElem?_eq_getElem hlt
    refine wpAny_mono (W.item j ds[j] s' _ (okO ok σ₁) hd hSx hk hok1 hinv.freshO) (fun r' s₃ q => ?_) fun _ _ x => x
    obtain ⟨v, rfl, q⟩ := q
    refine wpAny_mono q (fun _ s₄ q => ?_) fun _ _ x => x
    obtain ⟨rp, hSx', mi⟩ := q
    have inv₄ := hinv.mvI mi hwr2 (fun a w => (W.node j s' a hSx w).1) fun b w => i.fresh b (hwr b w).1
    have mv₄ := MvI.after hmv mi (fun a w => (hwr a w).1) hwg
    have hk₄ := mv₄.base k i.off
    refine wpAny_mono (ht ds[j] (List.getElem_mem hlt) σ₁ ok A s₄ _ v r hk₄ inv₄ rp) (fun _ s₅ q => ?_) fun _ _ x => x
    obtain ⟨inv₅, mv₅, ow₅⟩ := q
    have mv₅' : Mv G.base (Wr env σ) s s₅ := mv₄.trans mv₅ fun a w => by
      rcases w with w | w
      · exact .inl (.inl w)
      · exact (how a w).imp .inr fun z => st.ext.none z
    have hk₅ := mv₅'.base k i.off
    have hSx₅ : Sx (j + 1) s₅ := W.frame (j + 1) s₄ s₅ _ hSx' mv₅ (fun a q => hfpw a q) fun a q nd w => by
      rcases w with w | w
      · exact node_not_frame inv₄.frame nd w
      · exact (hok1 a q).2 w
    refine wpAny_mono (turn j ds[j] σ₁ hd hJ ok A s₅ _ r hk₅ inv₅) (fun fl s₆ q => ?_) fun _ _ x => x
    obtain ⟨fl', σ₂, q, fi, inv₆, mv₆, hk₆, ow₆⟩ := q
    have mv₆' : Mv G.base (Wr env σ) s s₆ := mv₅'.trans mv₆ fun a w => by
      rcases w with w | w
      · exact .inl (.inl w)
      · exact (how a (ow₅ a w)).imp .inr fun z => st.ext.none z
    have dom₅ : ∀ b, ¬ wr b → s₅.heap.get? b = none → s₂.heap.get? b = none := fun b nz e => hdom b nz (mi.dom b nz (mv₅.dom b e))
    have how₆ : ∀ a ∈ owned σ₂, a ∈ owned σ ∨ s₂.heap.get? a = none := fun a w => by
      rcases ow₆ a w with w | w
      · exact how a (ow₅ a w)
      · exact .inr (dom₅ a (fun z => by have := (W.node _ _ a hSx₅ z).2; rw [w] at this; cases this) w)
    have how₆' : ∀ a ∈ owned σ₂, a ∈ owned σ ∨ s.heap.get? a = none := fun a w => (how₆ a w).imp id fun z => st.ext.none z
    have go : J (j + 1) σ₂ → ∃ m, m < ds.length + 1 - j ∧ ∃ j' σ₁, j' ≤ ds.length ∧ m = ds.length + 1 - j' ∧ J j' σ₁ ∧ Sx j' s₆ ∧ Inv G.base ok env σ₁ s₆.heap ∧ Mv G.base (Wr env σ) s s₆ ∧ G.base.StaysIn s₆.heap ∧
        (∀ a ∈ owned σ₁, a ∈ owned σ ∨ s₂.heap.get? a = none) ∧ ∀ b, ¬ wr b → s₆.heap.get? b = none → s₂.heap.get? b = none := fun hq =>
      ⟨ds.length + 1 - (j + 1), by omega, j + 1, σ₂, hlt, rfl, hq, W.frame (j + 1) s₅ s₆ _ hSx₅ mv₆ (fun a q w => by
          rcases w with w | w
          · exact (hfp a q).2 (.inl w)
          · exact hfpw a q (.inr (ow₅ a w))) (fun a q nd w => by
          rcases w with w | w
          · exact node_not_frame inv₅.frame nd w
          · exact (hok1 a q).2 (ow₅ a w)), inv₆, mv₆', hk₆, how₆, fun b nz e => dom₅ b nz (mv₆.dom b e)⟩
    cases fl <;> cases fl' <;> first | exact fi.elim | skip
    · exact go q
    · exact ⟨.next, σ₂, q, trivial, inv₆, mv₆', hk₆, how₆'⟩
    · exact go q
    · exact ⟨.ret _, σ₂, q, fi, inv₆, mv₆', hk₆, how₆'⟩
  · have hjl : j = ds.length := by omega
    subst hjl
    refine wpAny_mono (W.done s' _ hSx hk) (fun r' s₃ q => ?_) fun _ _ x => x
    obtain ⟨rfl, mi⟩ := q
    have inv₃ := hinv.mvI mi hwr2 (fun a w => (W.node _ s' a hSx w).1) fun b w => i.fresh b (hwr b w).1
    have mv₃ := MvI.after hmv mi (fun a w => (hwr a w).1) hwg
    exact wpAny_execs_nil ⟨.next, σ₁, done σ₁ hJ, trivial, inv₃, mv₃, mv₃.base k i.off, fun a w => (how a w).imp id fun z => st.ext.none z⟩
end
end Mine
end
section
open PySem PySem.W PyProof.Rows PySem.Calls
set_option maxRecDepth 100000
namespace Mine
section
variable {G : Gr} {n : Nat} {env : Env} {σ : St}
def plainIter (T : String) : Bool := !(["enumerate", "zip", "dict_itemiterator", "dict_reverseitemiterator", "odict_iterator", "itertools.zip_longest", "itertools.pairwise", "list", "tuple", "slice", "range"] : List String).contains T
theorem letOwned_plain {M : Model} {A : Around} {E : Value → Shared → Prop} {s : Shared} {target : Expr} {I : Addr} {v : Value} {o : Obj} {T : String} {Q : Unit → Shared → Prop} (ho : s.heap.get? I = some o) (hc : o.cls = .type T) (hT : plainIter T = true)
    (h : Q () s) : wpAny M A (letOwnedTupleGo target (.ref I) v) Q E s := by
  have hT' : (["enumerate", "zip", "dict_itemiterator", "dict_reverseitemiterator", "odict_iterator", "itertools.zip_longest", "itertools.pairwise"] : List String).contains T = false := by
    unfold plainIter at hT
    simp only [List.contains_cons, List.contains_nil, Bool.or_false, Bool.not_eq_true', Bool.or_eq_false_iff] at hT ⊢
    exact ⟨hT.1, hT.2.1, hT.2.2.1, hT.2.2.2.1, hT.2.2.2.2.1, hT.2.2.2.2.2.1, hT.2.2.2.2.2.2.1⟩
  have go : wpAny M A (match (Value.ref I, v) with
      | (.ref r, .ref a) => (do
        let o ← load r
        match o.cls, o.data with
        | .type n, .fields vs =>
          if ["enumerate", "zip", "dict_itemiterator", "dict_reverseitemiterator", "odict_iterator", "itertools.zip_longest", "itertools.pairwise"].contains n && vs[0]? == some (rawInt a) then
            rule "for.unpacks-the-owned-tuple"
            updateField r 0 .none
        | _, _ => pure () : Sem Unit)
      | _ => pure ()) Q E s := by
    cases v <;> first | exact wpAny_pure h | skip
    refine wpAny_bind (wpAny_load ho ?_)
    rw [hc]
    cases o.data <;> first | exact wpAny_pure h | skip
    simp only [hT', Bool.false_and, Bool.false_eq_true, if_false]
    exact wpAny_pure h
  cases target <;> first | exact wpAny_pure h | exact go
theorem MvI.of_keep {base : Heap} {I : Addr} {s : Shared} {h' : Heap} {tk : Nat} (h : ∀ b o, b ∉ [I] → s.heap.get? b = some o → h'.get? b = some o) : MvI base (· = I) (fun _ => False) s { s with heap := h', toks := tk } :=
  ⟨fun b o w e => ⟨o, h b o (by simpa using w) e, rfl, rfl, fun _ => rfl⟩, fun b w e => (by
    cases q : s.heap.get? b with
    | none => rfl
    | some o => (have := h b o (by simpa using w) q; rw [show h'.get? b = none from e] at this; cases this)), rfl, fun _ _ _ e => e, fun q => q⟩
theorem Itr.of_walks {A : Around} {ok : Addr → Prop} {target : Expr} {I : Addr} {ds ds' : List D} {vs : List Value} {fpl : List Addr} {m : Nat} {P : Nat → Value → Prop} {Stt : Nat → Heap → Prop} (W : Walks G.prog G.w A I fpl [I] m P Stt) (hm : m = ds.length)
    (hfp : ∀ b ∈ fpl, b = I ∨ (ok b ∧ ∀ i h, Stt i h → IsNode h b)) (hobj : ∀ i h, Stt i h → ∃ o T, h.get? I = some o ∧ o.cls = .type T ∧ isDict o.data = false ∧ plainIter T = true)
    (hP : ∀ i v d h, ds[i]? = some d → P i v → RepAll ok h vs ds' → Rep ok h v d) :
    Itr G A ok target I ds (· = I) (· = I) (fun _ => False) (fun i s => Stt i s.heap ∧ RepAll ok s.heap vs ds') where
  frame := fun i s s' W' hs mv hf hn => by
    refine ⟨W.frame i s.heap s'.heap hs.1 fun b hb o e => ?_, hs.2.extBut mv.ext hn fun _ q _ => q⟩
    rcases hfp b hb with rfl | ⟨q1, q2⟩
    · obtain ⟨o₁, T, e₁, _, d₁, _⟩ := hobj i _ hs.1
      rw [e] at e₁; cases e₁
      obtain ⟨o', e', _, _, k'⟩ := mv.ext b o (hf b rfl) e
      rw [e', k' (.inr d₁)]
    · have nd := q2 i _ hs.1
      obtain ⟨o', e', _, _, k'⟩ := mv.ext b o (hn b q1 nd) e
      rw [e', k' (.inr ?_)]
      cases nd with
      | list l => obtain ⟨o₂, e₂, _, k, d⟩ := l; rw [e] at e₂; cases e₂; rw [d]; rfl
      | tup l => obtain ⟨o₂, e₂, _, k, d⟩ := l; rw [e] at e₂; cases e₂; rw [d]; rfl
      | slice e₂ _ d => rw [e] at e₂; cases e₂; rw [d]; rfl
      | rng e₂ => unfold IsRange at e₂; rw [e] at e₂; cases e₂; rfl
  node := fun i s a hs ha => by
    subst ha
    obtain ⟨o, T, e, c, _, hT⟩ := hobj i _ hs.1
    refine ⟨fun nd => ?_, by rw [e]; rfl⟩
    cases nd with
    | list l => obtain ⟨o₂, e₂, c₂, _⟩ := l; rw [e] at e₂; cases e₂; rw [c] at c₂; cases c₂; cases hT
    | tup l => obtain ⟨o₂, e₂, c₂, _⟩ := l; rw [e] at e₂; cases e₂; rw [c] at c₂; cases c₂; cases hT
    | slice e₂ c₂ _ => rw [e] at e₂; cases e₂; rw [c] at c₂; cases c₂; cases hT
    | rng e₂ => unfold IsRange at e₂; rw [e] at e₂; cases e₂; cases c; cases hT
  item := fun i d s E ok' hd hs k hok hfr => by
    have hlt : i < m := by rw [hm]; exact (List.getElem?_eq_some_iff.mp hd).1
    refine W.item i s _ E hlt hs.1 fun v h' tk hp hst hk => ?_
    have mi : MvI G.base (· = I) (fun _ => False) s { s with heap := h', toks := tk } := .of_keep hk
    have rs : RepAll ok h' vs ds' := hs.2.extBut mi.ext (fun a q nd z => by
      obtain ⟨o, T, e, c, _, hT⟩ := hobj i _ hs.1
      subst z
      cases nd with
      | list l => obtain ⟨o₂, e₂, c₂, _⟩ := l; rw [e] at e₂; cases e₂; rw [c] at c₂; cases c₂; cases hT
      | tup l => obtain ⟨o₂, e₂, c₂, _⟩ := l; rw [e] at e₂; cases e₂; rw [c] at c₂; cases c₂; cases hT
      | slice e₂ c₂ _ => rw [e] at e₂; cases e₂; rw [c] at c₂; cases c₂; cases hT
      | rng e₂ => unfold IsRange at e₂; rw [e] at e₂; cases e₂; cases c; cases hT) fun _ q _ => q
    obtain ⟨o, T, e, c, _, hT⟩ := hobj _ _ hst
    exact ⟨v, rfl, letOwned_plain e c hT ⟨(hP i v d h' hd hp rs).weak hok, ⟨hst, rs⟩, mi⟩⟩
  done := fun s E hs k => W.done s _ E (hm ▸ hs.1) fun h' tk hk => ⟨rfl, .of_keep hk⟩
  self := fun i s Q E hs hq => W.self i s Q E hs.1 hq
/-- a value that may stand in a for's head -/
def IterD (G : Gr) (n : Nat) (d : D) (ds : List D) : Prop := ∀ ok A s E v target, Room n A → G.base.StaysIn s.heap → FreshOk ok s.heap → Rep ok s.heap v d →
  wpAny G.M A (pyIter v) (fun it s' => Stp G.base s s' ∧ ∃ I Sx, it = .ref I ∧ s.heap.get? I = none ∧ (s'.heap.get? I).isSome = true ∧
    Itr G A (fun a => ok a ∧ (s'.heap.get? a).isSome = true) target I ds (· = I) (· = I) (fun _ => False) Sx ∧ Sx 0 s') E s
theorem EvI.of_ev {e target : Expr} {d : D} {ds : List D} (h : Ev G n env σ e d) (hd : IterD G n d ds) : EvI G n env σ e target ds := fun ok A s E r k i =>
  wpAny_mono (h ok A s E r k i) (fun v s₁ p₁ => wpAny_mono (hd _ A s₁ E v target r (p₁.1.ext.base k) (i.ext p₁.1.ext).freshO p₁.2) (fun it s₂ p₂ => by
    obtain ⟨st, I, Sx, rfl, hI, hI', W, hs⟩ := p₂
    have h0 : s.heap.get? I = none := p₁.1.ext.none hI
    refine ⟨p₁.1.trans st, I, _, _, _, Sx, rfl, W, hs, fun a ha => ?_, fun a ha => ?_, fun g hg => hg.elim⟩
    · subst ha
      refine ⟨hI', ?_⟩
      rintro ((w | ⟨x, w⟩) | w)
      · obtain ⟨m, o, _, _, q, _⟩ := i.frame.ns; rw [← w, h0] at q; cases q
      · obtain ⟨_, o, q, _⟩ := i.frame.cells x a w; rw [h0] at q; cases q
      · obtain ⟨vs, l⟩ := i.there a w; have := l.some; rw [h0] at this; cases this
    · subst ha; exact ⟨h0, rfl⟩) fun _ _ x => x) fun _ _ x => x
theorem repAll_alloc {ok : Addr → Prop} {h : Heap} {vs : List Value} {ds : List D} (r : RepAll ok h vs ds) : RepAll (fun a => ok a ∧ (h.get? a).isSome = true) h vs ds := r.ext (base := h) .refl fun a q z => ⟨q, z⟩
theorem IterD.list {ds : List D} : IterD G n (.list ds) ds := fun ok A s E v target r k fr rp => by
  cases rp with
  | @list a vs _ o l rs =>
    have hne : a ≠ s.heap.objs.size := by obtain ⟨_, e, _⟩ := l; exact Nat.ne_of_lt (Heap.lt_size e)
    refine wpAny_pyIter_list l ?_
    have st : Stp G.base s { s with heap := s.heap.push { cls := .type "list_iterator", data := .fields #[.ref a, .int 0 0] } } := .push
    refine ⟨st, s.heap.objs.size, _, rfl, fresh_get, by rw [Heap.get?_push_size _ rfl]; rfl, Itr.of_walks (vs := vs) (ds' := ds) (Walks.list r.handled s.heap.objs.size a hne vs.toArray) (by rw [List.size_toArray, rs.length]) ?_ ?_ ?_,
      ⟨⟨_, Heap.get?_push_size _ rfl, rfl, rfl⟩, st.ext.list l⟩, ?_⟩
    · intro b hb
      rcases List.mem_cons.mp hb with rfl | hb
      · exact .inl rfl
      · rw [List.mem_singleton.mp hb]
        exact .inr ⟨⟨o, by obtain ⟨_, e, _⟩ := st.ext.list l; rw [e]; rfl⟩, fun i h q => .list q.2⟩
    · rintro i h ⟨⟨o', e, c, d⟩, _⟩
      exact ⟨o', _, e, c, by rw [d]; rfl, by decide⟩
    · intro i v d h hd hp rs'
      obtain ⟨u, e, rp⟩ := rs'.get hd
      have : vs[i]? = some v := by simpa using hp
      rw [this] at e; cases e; exact rp
    · exact repAll_alloc (rs.stp st)
/-- a text's signs -/
def signs (x : Str) : List D := x.cps.toList.map fun c => .str ⟨#[c]⟩
end
end Mine
end
section
open PySem PySem.W PyProof.Rows PySem.Calls
set_option maxRecDepth 100000
namespace Mine
/-- a def of the program by its place -/
def defAt (p : Program) (i : Nat) : DefRec := match p.main.body.drop i with
  | .FunctionDef name params body _ _ _ scope _ _ pos :: _ => ⟨name, params, body, scope, pos⟩
  | _ => ⟨⟨#[]⟩, ⟨[], [], none, [], [], none, []⟩, [], { kind := .function, names := [], isGenerator := false, isCoroutine := false, more := [] }, ⟨0, 0, 0, 0⟩⟩
/-- the frame of a def -/
structure FEnv (env : Env) (sc : Scope) : Prop where
  scope : env.scope = sc
  cells : ∀ x, sc.names.lookup x = some .cell → (env.cells.lookup x).isSome = true
section
variable {G : Gr} {n : Nat} {env : Env} {σ : St} {sc : Scope}
theorem FEnv.kind (F : FEnv env sc) {x : Str} {k : NameKind} (h : sc.names.lookup x = some k) : env.kindOf x = some k := by unfold Env.kindOf; rw [F.scope]; exact h
theorem FEnv.loc (F : FEnv env sc) {x : Str} (h : sc.names.lookup x = some .local) : Storable env x := .inl (F.kind h)
theorem FEnv.cel (F : FEnv env sc) {x : Str} (h : sc.names.lookup x = some .cell) : Storable env x := .inr ⟨F.kind h, F.cells x h⟩
/-- the def stands in the ground -/
structure FnAt (G : Gr) (d : DefRec) (a : Addr) : Prop where
  name : G.mg d.name = some (.ref a)
  obj : ∃ o pm code doc, G.base.get? a = some o ∧ o.data = .func (docDef d.name d.params d.body d.scope pm code doc) ∧ G.base.CodeRec code d.name
theorem bindL_other (kd : Str → Option NameKind) {x : Str} : ∀ (bs : List (Str × Value)) (m : Str → Option Value), (∀ p ∈ bs, p.1 ≠ x) → bindL kd bs m x = m x
  | [], m, _ => rfl
  | (y, v) :: r, m, h => by
    unfold bindL
    rw [bindL_other kd r _ fun p hp => h p (.tail _ hp)]
    have : x ≠ y := fun e => h (y, v) (.head _) e.symm
    split <;> simp [this]
theorem bindC_other (kd : Str → Option NameKind) {x : Str} : ∀ (bs : List (Str × Value)) (m : Str → Option Value), (∀ p ∈ bs, p.1 ≠ x) → bindC kd bs m x = m x
  | [], m, _ => rfl
  | (y, v) :: r, m, h => by
    unfold bindC
    rw [bindC_other kd r _ fun p hp => h p (.tail _ hp)]
    have : x ≠ y := fun e => h (y, v) (.head _) e.symm
    split <;> simp [this]
theorem bindL_get (kd : Str → Option NameKind) {x : Str} {v : Value} (hk : kd x = some .local) : ∀ (bs : List (Str × Value)) (m : Str → Option Value), (bs.map (·.1)).Nodup → (x, v) ∈ bs → bindL kd bs m x = some v
  | (y, u) :: r, m, nd, h => by
    unfold bindL
    rw [List.map_cons, List.nodup_cons] at nd
    rcases List.mem_cons.mp h with e | h
    · cases e
      rw [bindL_other kd r _ fun p hp e => nd.1 (List.mem_map.mpr ⟨p, hp, e⟩), if_pos hk]; simp
    · exact bindL_get kd hk r _ nd.2 h
theorem bindC_get (kd : Str → Option NameKind) {x : Str} {v : Value} (hk : kd x = some .cell) : ∀ (bs : List (Str × Value)) (m : Str → Option Value), (bs.map (·.1)).Nodup → (x, v) ∈ bs → bindC kd bs m x = some v
  | (y, u) :: r, m, nd, h => by
    unfold bindC
    rw [List.map_cons, List.nodup_cons] at nd
    rcases List.mem_cons.mp h with e | h
    · cases e
      rw [bindC_other kd r _ fun p hp e => nd.1 (List.mem_map.mpr ⟨p, hp, e⟩), if_neg (by rw [hk]; decide)]; simp
    · exact bindC_get kd hk r _ nd.2 h
theorem repAll_zip {ok : Addr → Prop} {h : Heap} {x : Str} {d : D} : ∀ {xs : List Str} {vs : List Value} {ds : List D}, RepAll ok h vs ds → (xs.zip (ds.map Slot.val)).lookup x = some (.val d) → ∃ v, (x, v) ∈ xs.zip vs ∧ Rep ok h v d
  | [], _, _, _, q => by cases q
  | y :: ys, _, _, .nil, q => by cases q
  | y :: ys, _, _, .cons (v := v) a r, q => by
    rw [List.map_cons, List.zip_cons_cons, List.lookup_cons] at q
    cases e : x == y with
    | true => rw [e] at q; cases q; rw [beq_iff_eq.mp e]; exact ⟨v, List.mem_cons_self, a⟩
    | false =>
      rw [e] at q
      obtain ⟨u, m, rp⟩ := repAll_zip r q
      exact ⟨u, List.mem_cons_of_mem _ m, rp⟩
theorem owned_zip : ∀ (xs : List Str) (ds : List D), owned (xs.zip (ds.map Slot.val)) = []
  | [], _ => rfl
  | _ :: _, [] => rfl
  | x :: xs, d :: ds => by rw [List.map_cons, List.zip_cons_cons, owned_cons]; exact owned_zip xs ds
theorem lookup_zip_own {x : Str} {a : Addr} {es : List D} : ∀ (xs : List Str) (ds : List D), (xs.zip (ds.map Slot.val)).lookup x ≠ some (.own a es)
  | [], _ => nofun
  | _ :: _, [] => nofun
  | y :: ys, d :: ds => by
    rw [List.map_cons, List.zip_cons_cons, List.lookup_cons]
    cases x == y with
    | true => exact nofun
    | false => exact lookup_zip_own ys ds
/-- what a call of a def gives, by its body -/
theorem CallD.def {d : DefRec} {a : Addr} {ds : List D} {r : D} (F : FnAt G d a) (hds : d.params.args.length = ds.length)
    (hbind : ∀ pm code doc vs, vs.length = ds.length → bindArgs (docDef d.name d.params d.body d.scope pm code doc) ⟨vs, []⟩ = pure ((d.params.args.map (·.arg)).zip vs))
    (hkind : (d.params.args.all fun y => d.scope.names.lookup y.arg == some .local || d.scope.names.lookup y.arg == some .cell) = true) (hnd : (d.params.args.map (·.arg)).Nodup)
    (h : ∀ env, FEnv env d.scope → Ex G n env ((d.params.args.map (·.arg)).zip (ds.map Slot.val)) d.body fun fl _ => fl = .ret r)
    (hco : d.scope.isCoroutine = false) (hgen : d.scope.isGenerator = false) (hk : d.scope.kind = .function) : CallD G (n + 1) (.ref a) ds r := fun ok A s E vs rm k fr rs => by
  obtain ⟨o, pm, code, doc, ho, hd, hcd⟩ := F.obj
  refine wpAny_call (codeAny_call_cells (fd := docDef d.name d.params d.body d.scope pm code doc) (body := d.body) (vals := vs) (binds := (d.params.args.map (·.arg)).zip vs) (by have := rm.depth; omega) (k _ _ ho) hd (G.nolimit.keeps k) (hcd.keeps k) rfl (hbind _ _ _ _ rs.length) rfl ?_ (fun s₁ x => ?_) hco hgen hk)
  · intro p hp
    have hm : p.1 ∈ d.params.args.map (·.arg) := (List.of_mem_zip hp).1
    obtain ⟨y, hy, e⟩ := List.mem_map.mp hm
    have := List.all_eq_true.mp hkind y hy
    rw [e] at this
    exact kindsX (scope := d.scope) (binds := [(p.1, p.2)]) (by simpa using this) _ (p.1, p.2) (by simp)
  · generalize henv : callEnvC (docDef d.name d.params d.body d.scope pm code doc) s.heap.objs.size a = env at x ⊢
    have hsc : env.scope = d.scope := by rw [← henv]; rfl
    have hcs : env.cells = cellsFrom (s.heap.objs.size + 1) d.scope.names [] := by rw [← henv]; rfl
    have FE : FEnv env d.scope := ⟨hsc, fun y hy => by rw [hcs]; exact cellsFrom_some _ _ _ (.inl hy)⟩
    have hnoL : ∀ b, s.heap.objs.size ≤ b → s.heap.get? b = none := fun b hb => by
      cases q : s.heap.get? b with
      | none => rfl
      | some o => exact absurd (Nat.lt_of_lt_of_le (Heap.lt_size q) hb) (Nat.lt_irrefl _)
    have hfw : ∀ b, FrW env b → s.heap.get? b = none := fun b w => by
      rcases w with w | ⟨y, w⟩
      · exact hnoL b (w ▸ x.toInCall.fresh)
      · exact hnoL b (Nat.le_of_lt (Nat.lt_of_le_of_lt x.toInCall.fresh (x.above y b (mem_of_lookup w))))
    have hvl : ((d.params.args.map (·.arg)).zip vs).map (·.1) = d.params.args.map (·.arg) := by
      rw [List.map_fst_zip]; rw [List.length_map, hds, rs.length]; exact Nat.le_refl _
    have hnd' : (((d.params.args.map (·.arg)).zip vs).map (·.1)).Nodup := by rw [hvl]; exact hnd
    have st : Stp G.base s s₁ := by
      obtain ⟨h', tk, rfl, hkp⟩ := x.done
      exact .heap hkp
    have inv : Inv G.base ok env ((d.params.args.map (·.arg)).zip (ds.map Slot.val)) s₁.heap := by
      refine ⟨⟨by rw [hsc]; exact hk, ⟨_, x.toInCall.ns⟩, fun y c l => ⟨_, x.cell y c l⟩, x.apart, fun y c l => Nat.ne_of_gt (x.above y c (mem_of_lookup l)), by rw [← henv]; rfl, by rw [← henv]; rfl⟩,
        fun b w => ?_, fr.stp st.ext, fun y e l => ?_, fun y b es l => absurd l (lookup_zip_own _ _), fun b w => ?_, ?_⟩
      · rw [Wr, owned_zip] at w
        have := hfw b (w.elim id fun z => nomatch z)
        cases q : G.base.get? b with
        | none => rfl
        | some o => rw [k b o q] at this; cases this
      · obtain ⟨v, hm, rp⟩ := repAll_zip rs l
        refine ⟨v, ?_, (rp.stp st).weak fun b q => ⟨q, by rw [owned_zip]; simp⟩⟩
        have hy : y ∈ d.params.args.map (·.arg) := (List.of_mem_zip hm).1
        obtain ⟨z, hz, e⟩ := List.mem_map.mp hy
        have hkd := List.all_eq_true.mp hkind z hz
        rw [e] at hkd
        rcases Bool.or_eq_true_iff.mp hkd with q | q
        · have q' : env.kindOf y = some .local := FE.kind (by simpa using q)
          exact .inl ⟨q', _, x.toInCall.ns, bindL_get _ q' _ _ hnd' hm⟩
        · have q0 : d.scope.names.lookup y = some .cell := by simpa using q
          have q' : env.kindOf y = some .cell := FE.kind q0
          obtain ⟨c, hc⟩ := Option.isSome_iff_exists.mp (FE.cells y q0)
          refine .inr ⟨.inl q', c, hc, ?_⟩
          have := x.cell y c hc
          rw [bindC_get _ q' _ _ hnd' hm] at this
          exact this
      · rw [owned_zip] at w; cases w
      · rw [owned_zip]; exact List.nodup_nil
    refine wpAny_mono (h env FE ok _ s₁ (fun _ _ => False) rm.deeper (st.ext.base k) inv) (fun f s₂ q => ?_) fun _ _ x => x.elim
    obtain ⟨fl, σ', rfl, fi, _, mv, _, _⟩ := q
    cases f with
    | ret v =>
      refine ⟨?_, fi⟩
      have m2 : Mv G.base (FrW env) s s₂ := ((st.mv (W := FrW env))).trans mv fun b w => by rw [Wr, owned_zip] at w; exact .inl (w.elim id fun z => nomatch z)
      exact m2.stp hfw
    | _ => exact fi.elim
end
end Mine
end
section
open PySem PySem.W PyProof.Rows PySem.Calls
set_option maxRecDepth 100000
namespace Mine
section
variable {G : Gr} {n : Nat} {env : Env} {σ : St}
theorem BinD.add {x y : Int} : BinD G n .Add (.int x) (.int y) (.int (x + y)) := fun ok A s E va vb r k f ra rb => by
  cases ra; cases rb; exact P.add_int ⟨.tok, .int _ _⟩
theorem BinD.sub {x y : Int} : BinD G n .Sub (.int x) (.int y) (.int (x - y)) := fun ok A s E va vb r k f ra rb => by
  cases ra; cases rb; exact P.sub_int ⟨.tok, .int _ _⟩
theorem BinD.mod {x y : Int} (h : y ≠ 0) : BinD G n .Mod (.int x) (.int y) (.int (x.fmod y)) := fun ok A s E va vb r k f ra rb => by
  cases ra; cases rb; exact mod_int' h ⟨.tok, .int _ _⟩
theorem CmpD.eq_int {x y : Int} : CmpD G n .Eq (.int x) (.int y) (x == y) := fun ok A s E va vb r k f ra rb => by
  cases ra; cases rb; exact P.eq_int ⟨.refl, rfl⟩
theorem CmpD.ne_int {x y : Int} : CmpD G n .NotEq (.int x) (.int y) (x != y) := fun ok A s E va vb r k f ra rb => by
  cases ra; cases rb; exact P.ne_int ⟨.refl, rfl⟩
theorem CmpD.lt_int {x y : Int} : CmpD G n .Lt (.int x) (.int y) (decide (x < y)) := fun ok A s E va vb r k f ra rb => by
  cases ra; cases rb; exact P.lt_int ⟨.refl, rfl⟩
theorem CmpD.gt_int {x y : Int} : CmpD G n .Gt (.int x) (.int y) (decide (x > y)) := fun ok A s E va vb r k f ra rb => by
  cases ra; cases rb; exact P.gt_int ⟨.refl, rfl⟩
theorem TruD.bool {b : Bool} : TruD G n (.bool b) b := fun ok A s E v r k f rv => by
  cases rv; exact wpAny_truthy_bool ⟨.refl, rfl⟩
theorem Ev.neg {e : Expr} {p : Pos} {x : Int} (h : Ev G n env σ e (.int x)) : Ev G n env σ (.UnaryOp .USub e p) (.int (-x)) := fun ok A s E r k i =>
  UnaryOp_ (wpAny_mono (h ok A s E r k i) (fun v s₁ p₁ => by
    obtain ⟨st, rp⟩ := p₁; cases rp
    exact P.neg_int ⟨st.trans .tok, .int _ _⟩) fun _ _ x => x)
theorem cps_eq_iff {x y : Str} : (x.cps.toList == y.cps.toList) = decide (x = y) := by
  obtain ⟨⟨x⟩⟩ := x; obtain ⟨⟨y⟩⟩ := y
  by_cases h : x = y
  · subst h; simp
  · have : ¬ ((⟨⟨x⟩⟩ : Str) = ⟨⟨y⟩⟩) := fun e => h (by injection e with e; injection e)
    simp [h]
theorem CmpD.eq_str {x y : Str} : CmpD G n .Eq (.str x) (.str y) (decide (x = y)) := fun ok A s E va vb r k f ra rb => by
  cases ra; cases rb; exact P.eq_str (by rw [cps_eq_iff]; exact ⟨.refl, rfl⟩)
theorem BinD.add_str {x y : Str} (h : x.length + y.length ≤ sizeLine) : BinD G n .Add (.str x) (.str y) (.str (x ++ y)) := fun ok A s E va vb r k f ra rb => by
  cases ra; cases rb
  refine P.add_str ?_
  have hl : ∀ z : Str, (z.length == 0) = true → z = Str.empty := fun z hz => by
    obtain ⟨⟨l⟩⟩ := z
    cases l with
    | nil => rfl
    | cons a b => cases hz
  split
  · rename_i h0
    rw [hl x h0]
    exact ⟨.refl, by rw [show Str.empty ++ y = y from by obtain ⟨⟨l⟩⟩ := y; exact congrArg Str.mk (by simp [Str.empty])]; exact .str _ _⟩
  · split
    · rename_i h0
      rw [hl y h0]
      exact ⟨.refl, by rw [show x ++ Str.empty = x from by obtain ⟨⟨l⟩⟩ := x; exact congrArg Str.mk (by simp [Str.empty])]; exact .str _ _⟩
    · exact ⟨by rw [show (x ++ y).length = x.length + y.length from Array.size_append ..]; exact h, .tok, .str _ _⟩
theorem CallD.len_str {x : Str} (h : x.length < 2 ^ 62) : CallD G n (.builtin "len") [.str x] (.int x.length) := fun ok A s E vs r k f rs => by
  cases rs with
  | cons a t => cases t; cases a; exact P.len_str (by omega) ⟨.tok, .int _ _⟩
theorem CallD.len_list {ds : List D} (h : ds.length < 2 ^ 62) : CallD G n (.builtin "len") [.list ds] (.int ds.length) := fun ok A s E vs r k f rs => by
  cases rs with
  | cons a t =>
    cases t
    cases a with
    | list o l rs => exact PyProof.Rows.len_list l (by rw [List.size_toArray, rs.length]; omega) ⟨.tok, by rw [List.size_toArray, rs.length]; exact .int _ _⟩
theorem IdxD.list {ds : List D} {i : Int} {d : D} (h0 : 0 ≤ i) (h1 : i < 2 ^ 62) (h : ds[i.toNat]? = some d) : IdxD G n (.list ds) (.int i) d := fun ok A s E vo vi r k f ro ri => by
  cases ri
  cases ro with
  | list o l rs =>
    obtain ⟨v, hv, rv⟩ := rs.get h
    exact wpAny_getItem_list l h0 (by omega) (by simpa using hv) ⟨.refl, rv⟩
theorem typeIs_list {ok : Addr → Prop} {s : Shared} {v : Value} {ds : List D} (r : Rep ok s.heap v (.list ds)) : s.TypeIs v "list" := by
  cases r with
  | list o l rs => exact l.typeIs
theorem typeIs_tuple {ok : Addr → Prop} {s : Shared} {v : Value} {ds : List D} (r : Rep ok s.heap v (.tuple ds)) : s.TypeIs v "tuple" := by
  cases r with
  | tuple o l rs => exact l.typeIs
theorem typeIs_str' {ok : Addr → Prop} {s : Shared} {v : Value} {x : Str} (r : Rep ok s.heap v (.str x)) : s.TypeIs v "str" := by
  cases r; exact typeIs_str _ _ _
theorem Ev.item {o i : Expr} {p : Pos} {ds : List D} {di d : D} (ho : Ev G n env σ o (.list ds)) (hi : Ev G n env σ i di) (hx : IdxD G n (.list ds) di d)
    (hs : ∀ a b, ∃ ops, subscripted i false a b = operate ops (getItem a b) := by intro a b; first | exact ⟨[a, b], rfl⟩ | exact ⟨[b, a], rfl⟩) : Ev G n env σ (.Subscript o i p) d :=
  .sub ho hi hx (fun _ _ _ r => typeIs_list r) slot_list_getitem.lookup hs
theorem Ev.itemT {o i : Expr} {p : Pos} {ds : List D} {di d : D} (ho : Ev G n env σ o (.tuple ds)) (hi : Ev G n env σ i di) (hx : IdxD G n (.tuple ds) di d)
    (hs : ∀ a b, ∃ ops, subscripted i false a b = operate ops (getItem a b) := by intro a b; first | exact ⟨[a, b], rfl⟩ | exact ⟨[b, a], rfl⟩) : Ev G n env σ (.Subscript o i p) d :=
  .sub ho hi hx (fun _ _ _ r => typeIs_tuple r) slot_tuple_getitem.lookup hs
theorem Ev.itemS {o i : Expr} {p : Pos} {x : Str} {di d : D} (ho : Ev G n env σ o (.str x)) (hi : Ev G n env σ i di) (hx : IdxD G n (.str x) di d)
    (hs : ∀ a b, ∃ ops, subscripted i false a b = operate ops (getItem a b) := by intro a b; first | exact ⟨[a, b], rfl⟩ | exact ⟨[b, a], rfl⟩) : Ev G n env σ (.Subscript o i p) d :=
  .sub ho hi hx (fun _ _ _ r => typeIs_str' r) F.slot_str_getitem.lookup hs
end
end Mine
end
section
open PySem PySem.W PyProof.Rows PySem.Calls
set_option maxRecDepth 100000
namespace Mine
mutual
def D.py : D → PyData
  | .none => .none
  | .bool b => .bool b
  | .int i => .int i
  | .str x => .str x
  | .tuple ds => .tuple (D.pys ds)
  | .list ds => .list (D.pys ds)
  | _ => .dict []
def D.pys : List D → List PyData
  | [] => []
  | d :: ds => D.py d :: D.pys ds
end
mutual
/-- none, ints, texts, and rows of such, to a depth -/
def D.data : Nat → D → Bool
  | _, .none => true
  | _, .bool _ => true
  | _, .int _ => true
  | _, .str x => PyData.strOk x
  | n + 1, .tuple ds => D.datas n ds
  | n + 1, .list ds => D.datas n ds
  | _, _ => false
def D.datas : Nat → List D → Bool
  | _, [] => true
  | n, d :: ds => D.data n d && D.datas n ds
end
mutual
theorem rep_reads {ok : Addr → Prop} {h : Heap} : ∀ {v : Value} {d : D} (n : Nat), Rep ok h v d → D.data n d = true → ∃ as, Reads h v d.py as
  | _, _, _, .none, _ => ⟨_, Reads.none⟩
  | _, _, _, .bool b, _ => ⟨_, Reads.bool b⟩
  | _, _, _, .int i t, _ => ⟨_, Reads.int i t⟩
  | _, _, _, .str x t, _ => ⟨_, Reads.str x t⟩
  | _, _, n, .bytes _ _, hk => by cases n <;> simp [D.data] at hk
  | _, _, n, .raw _, hk => by cases n <;> simp [D.data] at hk
  | _, _, n, .slice _ _ _ _ _ _ _, hk => by cases n <;> simp [D.data] at hk
  | _, _, n, .rng _ _, hk => by cases n <;> simp [D.data] at hk
  | _, _, 0, .tuple _ _ _, hk => by simp [D.data] at hk
  | _, _, 0, .list _ _ _, hk => by simp [D.data] at hk
  | _, _, n + 1, .tuple _ l r, hk => by
    obtain ⟨as, q⟩ := repAll_reads n r (by simpa [D.data] using hk)
    obtain ⟨o, e, c, k, d⟩ := l
    rw [D.py]
    exact ⟨as, Reads.tuple e c d (by simpa using q)⟩
  | _, _, n + 1, .list _ l r, hk => by
    obtain ⟨as, q⟩ := repAll_reads n r (by simpa [D.data] using hk)
    obtain ⟨o, e, c, k, d⟩ := l
    rw [D.py]
    exact ⟨_, Reads.list e c d (by simpa using q)⟩
theorem repAll_reads {ok : Addr → Prop} {h : Heap} : ∀ {vs : List Value} {ds : List D} (n : Nat), RepAll ok h vs ds → D.datas n ds = true → ∃ as, ReadsAll h vs (D.pys ds) as
  | _, _, _, .nil, _ => ⟨_, ReadsAll.nil⟩
  | _, _, n, .cons a r, hk => by
    rw [D.datas, Bool.and_eq_true] at hk
    obtain ⟨as, q⟩ := rep_reads n a hk.1
    obtain ⟨bs, p⟩ := repAll_reads n r hk.2
    rw [D.pys]
    exact ⟨_, ReadsAll.cons q p⟩
end
mutual
theorem data_lay : ∀ (n : Nat) (d : D), D.data n d = true → d.py.canLay0 = true ∧ d.py.depth ≤ n
  | _, .none, _ => by simp [D.py, PyData.canLay0, PyData.depth]
  | _, .bool _, _ => by simp [D.py, PyData.canLay0, PyData.depth]
  | _, .int _, _ => by simp [D.py, PyData.canLay0, PyData.depth]
  | n, .str x, h => by
    have : PyData.strOk x = true := by cases n <;> simpa [D.data] using h
    simp [D.py, PyData.canLay0, PyData.depth, this]
  | n, .bytes _, h => by cases n <;> simp [D.data] at h
  | n, .raw _, h => by cases n <;> simp [D.data] at h
  | n, .slice _ _ _, h => by cases n <;> simp [D.data] at h
  | n, .rng _ _, h => by cases n <;> simp [D.data] at h
  | 0, .tuple _, h => by simp [D.data] at h
  | 0, .list _, h => by simp [D.data] at h
  | n + 1, .tuple ds, h => by
    have q := datas_lay n ds (by simpa [D.data] using h)
    simp only [D.py, PyData.canLay0, PyData.depth, q.1, true_and]
    have := q.2; omega
  | n + 1, .list ds, h => by
    have q := datas_lay n ds (by simpa [D.data] using h)
    simp only [D.py, PyData.canLay0, PyData.depth, q.1, true_and]
    have := q.2; omega
theorem datas_lay : ∀ (n : Nat) (ds : List D), D.datas n ds = true → PyData.canLayAll0 (D.pys ds) = true ∧ PyData.depthAll (D.pys ds) ≤ n
  | _, [], _ => by simp [D.pys, PyData.canLayAll0, PyData.depthAll]
  | n, d :: ds, h => by
    rw [D.datas, Bool.and_eq_true] at h
    have q := data_lay n d h.1
    have p := datas_lay n ds h.2
    simp only [D.pys, PyData.canLayAll0, PyData.depthAll, q.1, p.1, Bool.and_self, true_and]
    have := q.2; have := p.2; omega
end
/-- Python's == -/
def D.eqb (d e : D) : Bool := PyData.eqv d.py e.py
theorem str_beq (x y : Str) : (x == y) = decide (x = y) := rfl
theorem eqb_refl {d : D} {n : Nat} (h : d.data n = true) : d.eqb d = true := SeqAt.eqv_refl d.py (data_lay n d h).1
section
variable {G : Gr} {n : Nat} {env : Env} {σ : St}
theorem CmpD.eq {d e : D} {k : Nat} (hd : d.data k = true) (he : e.data k = true) (hk : k ≤ 400) : CmpD G n .Eq d e (d.eqb e) := fun ok A s E va vb r kb f ra rb => by
  obtain ⟨as, qa⟩ := rep_reads k ra hd
  obtain ⟨bs, qb⟩ := rep_reads k rb he
  have la := data_lay k d hd
  have lb := data_lay k e he
  exact SeqAt.compareEq_reads qa qb la.1 lb.1 (by have := r.units; have := la.2; have := lb.2; omega) ⟨.refl, rfl⟩
theorem CmpD.ne {d e : D} {k : Nat} (hd : d.data k = true) (he : e.data k = true) (hk : k ≤ 400) : CmpD G n .NotEq d e (!d.eqb e) := fun ok A s E va vb r kb f ra rb => by
  obtain ⟨as, qa⟩ := rep_reads k ra hd
  obtain ⟨bs, qb⟩ := rep_reads k rb he
  have la := data_lay k d hd
  have lb := data_lay k e he
  exact SeqAt.compareNe_reads qa qb la.1 lb.1 (by have := r.units; have := la.2; have := lb.2; omega) ⟨.refl, rfl⟩
def D.part : D → Option Int
  | .int i => some i
  | _ => Option.none
def D.isPart : D → Bool
  | .none | .int _ => true
  | _ => false
theorem rep_part {ok : Addr → Prop} {h : Heap} {v : Value} {d : D} (r : Rep ok h v d) (hp : d.isPart = true) : IsPart v d.part := by
  cases r <;> first | exact IsPart.none | exact IsPart.int _ _ | cases hp
/-- the items that a slice takes -/
def pickD {α : Type} (ds : List α) (lo hi st : Option Int) : List α :=
  (sliceRange (sliceBounds lo hi st ds.length).1 (sliceBounds lo hi st ds.length).2.1 (sliceBounds lo hi st ds.length).2.2).filterMap (ds[·]?)
theorem repAll_filterMap {ok : Addr → Prop} {h : Heap} {vs : List Value} {ds : List D} (r : RepAll ok h vs ds) : ∀ js : List Nat, RepAll ok h (js.filterMap (vs[·]?)) (js.filterMap (ds[·]?))
  | [] => .nil
  | j :: js => by
    have ih := repAll_filterMap r js
    rw [List.filterMap_cons, List.filterMap_cons]
    cases hj : ds[j]? with
    | none =>
      have : vs[j]? = none := by
        rw [List.getElem?_eq_none_iff] at hj ⊢; rw [r.length]; exact hj
      rw [this]; exact ih
    | some d =>
      obtain ⟨v, hv, rp⟩ := r.get hj
      rw [hv]; exact .cons rp ih
theorem pick_rep {ok : Addr → Prop} {h : Heap} {vs : List Value} {ds : List D} (r : RepAll ok h vs ds) (lo hi st : Option Int) : RepAll ok h (slicePick vs.toArray lo hi st).toList (pickD ds lo hi st) := by
  unfold slicePick pickD
  rw [List.size_toArray, r.length]
  simpa using repAll_filterMap r _
theorem IdxD.slice {ds : List D} {l u st : D} (hl : l.isPart = true) (hu : u.isPart = true) (hs : st.isPart = true) (h0 : st.part ≠ some 0) (hz : ds.length ≤ sizeLine) :
    IdxD G n (.list ds) (.slice l u st) (.list (pickD ds l.part u.part st.part)) := fun ok A s E vo vi r k f ro ri => by
  cases ri with
  | slice oi ei ci di r1 r2 r3 =>
    cases ro with
    | @list a ws _ o lst rs =>
      refine wpAny_getItem_list_slice lst ⟨_, ei, ci, di⟩ (rep_part r1 hl) (rep_part r2 hu) (rep_part r3 hs) h0 ?_ (by rw [List.size_toArray, rs.length]; exact hz)
      have sp : Stp G.base s { s with heap := s.heap.push { cls := .type "list", data := .seq (slicePick ws.toArray l.part u.part st.part) } } := .push
      exact ⟨sp, .list (f _ fresh_get) ⟨_, Heap.get?_push_size _ rfl, rfl, 0, by simp⟩ ((pick_rep rs _ _ _).stp sp)⟩
end
end Mine
end
section
open PySem PySem.W PyProof.Rows PySem.Calls
set_option maxRecDepth 100000
namespace Mine
section
variable {G : Gr} {n : Nat} {env : Env} {σ : St}
def sliceStr (x : Str) (lo hi st : Option Int) : Str := ⟨(pickD x.cps.toList lo hi st).toArray⟩
theorem pickD_length_le {α : Type} (ds : List α) (lo hi st : Option Int) : (pickD ds lo hi st).length ≤ ds.length := by
  unfold pickD
  refine Nat.le_trans (List.length_filterMap_le _ _) (sliceRange_length_le _ _ _ _ (fun hc => ?_) fun hc => ?_)
  · simp only [sliceBounds] at hc ⊢
    simp only [hc, if_true]
    constructor
    · cases lo with
      | none => simp
      | some i => dsimp only; omega
    · cases hi with
      | none => simp
      | some i => dsimp only; omega
  · simp only [sliceBounds] at hc ⊢
    simp only [hc, if_false]
    constructor
    · cases lo with
      | none => simp
      | some i => dsimp only; omega
    · cases hi with
      | none => simp
      | some i => dsimp only; omega
theorem filterMap_run {α : Type} (l : List α) (a k : Nat) : ((List.range k).map (a + ·)).filterMap (l[·]?) = (l.drop a).take k := by
  induction k with
  | zero => simp
  | succ k ih =>
    rw [List.range_succ, List.map_append, List.filterMap_append, ih, List.take_add_one]
    congr 1
    simp only [List.map_cons, List.map_nil, List.filterMap_cons, List.filterMap_nil, List.getElem?_drop]
    cases l[a + k]? <;> rfl
theorem pickD_plain {α : Type} (ds : List α) (lo hi : Option Int) :
    pickD ds lo hi none = (ds.drop (lo.elim 0 (clipAt ds.length))).take (hi.elim ds.length (clipAt ds.length) - lo.elim 0 (clipAt ds.length)) := by
  unfold pickD
  rw [sliceBounds_plain]
  simp only [sliceRange_one, filterMap_run]
theorem pickD_from {α : Type} (ds : List α) (a : Nat) : pickD ds (some (a : Int)) none none = ds.drop a := by
  rw [pickD_plain]
  simp only [Option.elim, clipAt_nat]
  rcases Nat.le_total a ds.length with h | h
  · rw [Nat.min_eq_left h, List.take_of_length_le (by simp)]
  · rw [Nat.min_eq_right h, List.drop_of_length_le (Nat.le_refl _), List.drop_of_length_le h]; simp
theorem pickD_upto {α : Type} (ds : List α) (b : Nat) : pickD ds none (some (b : Int)) none = ds.take b := by
  rw [pickD_plain]
  simp only [Option.elim, clipAt_nat, List.drop_zero, Nat.sub_zero]
  rcases Nat.le_total b ds.length with h | h
  · rw [Nat.min_eq_left h]
  · rw [Nat.min_eq_right h, List.take_of_length_le (Nat.le_refl _), List.take_of_length_le h]
theorem pickD_run {α : Type} (ds : List α) (a b : Nat) : pickD ds (some (a : Int)) (some (b : Int)) none = (ds.drop a).take (b - a) := by
  rw [pickD_plain]
  simp only [Option.elim, clipAt_nat]
  rcases Nat.le_total a ds.length with h | h
  · rw [Nat.min_eq_left h]
    rcases Nat.le_total b ds.length with h2 | h2
    · rw [Nat.min_eq_left h2]
    · rw [Nat.min_eq_right h2, List.take_of_length_le (by simp), List.take_of_length_le (by simp; omega)]
  · rw [Nat.min_eq_right h, List.drop_of_length_le (Nat.le_refl _), List.drop_of_length_le h]; simp
theorem IdxD.sliceS {x : Str} {l u st : D} (hl : l.isPart = true) (hu : u.isPart = true) (hs : st.isPart = true) (h0 : st.part ≠ some 0) (hz : x.length ≤ sizeLine) :
    IdxD G n (.str x) (.slice l u st) (.str (sliceStr x l.part u.part st.part)) := fun ok A s E vo vi r k f ro ri => by
  cases ri with
  | slice oi ei ci di r1 r2 r3 =>
    cases ro with
    | str _ t =>
      have conv : ∀ {v : Value} {d : D}, Rep ok s.heap v d → d.isPart = true → ∃ p : Option (Int × Tok), v = partValue p ∧ p.map (·.1) = d.part := fun {v d} r hp => by
        cases r <;> first | cases hp | skip
        · exact ⟨none, rfl, rfl⟩
        · exact ⟨some (_, _), rfl, rfl⟩
      obtain ⟨p1, e1, q1⟩ := conv r1 hl
      obtain ⟨p2, e2, q2⟩ := conv r2 hu
      obtain ⟨p3, e3, q3⟩ := conv r3 hs
      subst e1; subst e2; subst e3
      have h0' : ((p3.map (·.1)).getD 1 == 0) = false := by
        rw [q3]
        cases hp : st.part with
        | none => rfl
        | some c =>
          rw [hp] at h0
          exact beq_eq_false_iff_ne.mpr fun e => h0 (by rw [show c = 0 from e])
      refine wpAny_getItem_str_slice ⟨_, ei, ci, di⟩ h0' ?_
      have eidx : slicePicked x p1 p2 p3 = sliceRange (sliceBounds l.part u.part st.part x.cps.toList.length).1 (sliceBounds l.part u.part st.part x.cps.toList.length).2.1 (sliceBounds l.part u.part st.part x.cps.toList.length).2.2 := by
        unfold slicePicked
        rw [q1, q2, q3]
        rfl
      have epick : (slicePicked x p1 p2 p3).filterMap (x.cps[·]?) = pickD x.cps.toList l.part u.part st.part := by
        rw [eidx]; unfold pickD; simp
      have elen : ∀ i ∈ slicePicked x p1 p2 p3, i < x.length ∨ True := fun _ _ => .inr trivial
      unfold sliceMade
      split
      · rename_i hc
        -- the whole text: the slice is the text itself
        rw [Bool.and_eq_true] at hc
        have hstep : (p3.map (·.1)).getD 1 = 1 := by simpa using hc.1
        have hlen : (slicePicked x p1 p2 p3).length = x.length := by simpa using hc.2
        have hres : sliceStr x l.part u.part st.part = x := by
          unfold sliceStr
          have hb : sliceBounds l.part u.part st.part x.cps.toList.length = sliceBounds l.part u.part none x.cps.toList.length := by
            rw [q3] at hstep
            unfold sliceBounds
            rw [hstep]; rfl
          have hp : pickD x.cps.toList l.part u.part st.part = pickD x.cps.toList l.part u.part none := by unfold pickD; rw [hb]
          have hl2 : (sliceRange (sliceBounds l.part u.part none x.cps.toList.length).1 (sliceBounds l.part u.part none x.cps.toList.length).2.1 (sliceBounds l.part u.part none x.cps.toList.length).2.2).length = x.cps.toList.length := by
            rw [← hb, ← eidx, hlen]; simp [Str.length]
          rw [hp, pickD_plain]
          rw [sliceBounds_plain] at hl2
          simp only [sliceRange_one, List.length_map, List.length_range] at hl2
          have hhi : u.part.elim x.cps.toList.length (clipAt x.cps.toList.length) ≤ x.cps.toList.length := by
            cases u.part with
            | none => exact Nat.le_refl _
            | some i =>
              have := clipAt_cast x.cps.toList.length i
              simp only [Option.elim]
              omega
          have e1 : l.part.elim 0 (clipAt x.cps.toList.length) = 0 ∨ x.cps.toList.length = 0 := by omega
          rcases e1 with e1 | e1
          · rw [e1, List.drop_zero, List.take_of_length_le (by omega)]
          · have e2 : x.cps.toList = [] := List.eq_nil_of_length_eq_zero e1
            obtain ⟨⟨lst⟩⟩ := x
            have e3 : lst = [] := by simpa using e2
            subst e3; simp
        rw [hres]
        exact ⟨.refl, .str _ _⟩
      · refine ⟨?_, .tok, ?_⟩
        · rw [epick]
          show (pickD x.cps.toList l.part u.part st.part).toArray.size ≤ sizeLine
          rw [List.size_toArray]
          exact Nat.le_trans (pickD_length_le _ _ _ _) (by simpa [Str.length] using hz)
        · rw [epick]; exact .str _ _
theorem CallD.range {m : Int} : CallD G n (.type "range") [.int m] (.rng 0 m) := fun ok A s E vs r k f rs => by
  cases rs with
  | cons a rs =>
    cases rs; cases a
    exact call_range_1 ⟨.push, .rng (f _ fresh_get) (Heap.get?_push_size _ rfl)⟩
theorem CallD.range2 {l m : Int} : CallD G n (.type "range") [.int l, .int m] (.rng l m) := fun ok A s E vs r k f rs => by
  cases rs with
  | cons a rs => cases rs with
    | cons b rs =>
      cases rs; cases a; cases b
      exact call_range_2 ⟨.push, .rng (f _ fresh_get) (Heap.get?_push_size _ rfl)⟩
def rngList (lo hi : Int) : List D := (List.range (hi - lo).toNat).map fun i => .int (lo + (i : Nat))
theorem IterD.rng {lo hi : Int} (h1 : -(2 ^ 62) ≤ lo) (h2 : lo < 2 ^ 62) (h3 : -(2 ^ 62) ≤ hi) (h4 : hi < 2 ^ 62) : IterD G n (.rng lo hi) (rngList lo hi) := fun ok A s E v target r k f rp => by
  cases rp with
  | rng o hr =>
    refine wpAny_pyIter_range hr (small_one h1 h2 h3 h4) ?_
    have hsz : Builtin.Range.rangeSize lo hi 1 = (((hi - lo).toNat : Nat) : Int) := by rw [rangeSize_one]; split <;> omega
    refine ⟨.push, s.heap.objs.size, _, rfl, fresh_get, by rw [Heap.get?_push_size _ rfl]; rfl, Itr.of_walks (vs := []) (ds' := []) (Walks.range r.handled s.heap.objs.size lo 1 (hi - lo).toNat) (by simp [rngList]) (fun b hb => .inl (List.mem_singleton.mp hb)) ?_ ?_, ⟨?_, .nil⟩⟩
    · intro i h q
      exact ⟨_, "range_iterator", q, rfl, rfl, by decide⟩
    · rintro i v d h hd ⟨t, rfl⟩ _
      simp only [rngList, List.getElem?_map, Option.map_eq_some_iff] at hd
      obtain ⟨j, hj, rfl⟩ := hd
      have : j = i := by
        rw [List.getElem?_range] at hj
        · exact (Option.some.inj hj).symm
        · have := (List.getElem?_eq_some_iff.mp hj).1; simpa using this
      rw [this, Int.mul_one]; exact .int _ _
    · show IsRangeIter _ _ _ _ _
      rw [← hsz]
      have := Heap.get?_push_size s.heap (o := { cls := .type "range_iterator", data := .fields #[rawInt lo, rawInt (Builtin.Range.rangeSize lo hi 1), rawInt 1] }) rfl
      simpa [IsRangeIter] using this
end
end Mine
end
section
open PySem PySem.W PyProof.Rows PySem.Calls
set_option maxRecDepth 100000
namespace Mine
section
variable {G : Gr} {n : Nat} {env : Env} {σ : St} {sc : Scope}
theorem closureFor_is (scope : Scope) (h : ∀ p ∈ scope.names, p.2 = .free → (env.cells.lookup p.1).isSome = true) :
    ∃ cl, closureFor scope env = pure cl ∧ (∀ y c, (y, c) ∈ cl → env.cells.lookup y = some c ∧ (y, NameKind.free) ∈ scope.names) ∧ (∀ p ∈ scope.names, p.2 = .free → cl.lookup p.1 = env.cells.lookup p.1) ∧ cl.map (·.1) = ((scope.names.filter (·.2 == .free)).map (·.1)).reverse := by
  have go : ∀ (f : Str × NameKind → List (Str × Addr) → Sem (ForInStep (List (Str × Addr)))) (hf : ∀ y k cs, f (y, k) cs = if k == NameKind.free then (do let a ← cellOf env y; pure (ForInStep.yield ((y, a) :: cs))) else pure (ForInStep.yield cs))
      (names : List (Str × NameKind)) (acc : List (Str × Addr)), (∀ p ∈ names, p.2 = .free → (env.cells.lookup p.1).isSome = true) → (∀ y c, (y, c) ∈ acc → env.cells.lookup y = some c) →
      ∃ cl, (forIn names acc f) = pure cl ∧
        (∀ y c, (y, c) ∈ cl → (y, c) ∈ acc ∨ (env.cells.lookup y = some c ∧ (y, NameKind.free) ∈ names)) ∧ (∀ q ∈ acc, q ∈ cl) ∧ (∀ p ∈ names, p.2 = .free → ∃ c, (p.1, c) ∈ cl) ∧ cl.map (·.1) = ((names.filter (·.2 == .free)).map (·.1)).reverse ++ acc.map (·.1) := by
    intro f hf names
    induction names with
    | nil => intro acc _ _; exact ⟨acc, by rw [List.forIn_nil], fun y c m => .inl m, fun _ q => q, (fun p hp => nomatch hp), by simp⟩
    | cons x r ih =>
      intro acc hn ha
      obtain ⟨y, k⟩ := x
      rw [List.forIn_cons, hf]
      by_cases hk : k = .free
      · subst hk
        obtain ⟨c, hc⟩ := Option.isSome_iff_exists.mp (hn (y, .free) (.head _) rfl)
        obtain ⟨cl, e, h1, h2, h3, h4⟩ := ih ((y, c) :: acc) (fun p hp => hn p (.tail _ hp)) (fun z d m => by
          rcases List.mem_cons.mp m with q | q
          · cases q; exact hc
          · exact ha z d q)
        refine ⟨cl, ?_, fun z d m => ?_, fun q hq => h2 q (.tail _ hq), fun p hp hfr => ?_, by rw [h4]; simp⟩
        · have : cellOf env y = pure c := by unfold cellOf; rw [hc]
          simp only [beq_self_eq_true, if_true, this, pure_bind]
          exact e
        · rcases h1 z d m with q | q
          · rcases List.mem_cons.mp q with q | q
            · cases q; exact .inr ⟨hc, .head _⟩
            · exact .inl q
          · exact .inr ⟨q.1, .tail _ q.2⟩
        · rcases List.mem_cons.mp hp with q | q
          · subst q; exact ⟨c, h2 _ (.head _)⟩
          · exact h3 p q hfr
      · obtain ⟨cl, e, h1, h2, h3, h4⟩ := ih acc (fun p hp => hn p (.tail _ hp)) ha
        have hb : (k == NameKind.free) = false := by simpa using hk
        refine ⟨cl, ?_, fun z d m => (h1 z d m).imp id fun q => ⟨q.1, .tail _ q.2⟩, h2, fun p hp hfr => ?_, by rw [h4]; simp [hk]⟩
        · simp only [hb, Bool.false_eq_true, if_false, pure_bind]
          exact e
        · rcases List.mem_cons.mp hp with q | q
          · subst q; exact absurd hfr hk
          · exact h3 p q hfr
  have key : ∃ cl, closureFor scope env = pure cl ∧ (∀ y c, (y, c) ∈ cl → (y, c) ∈ ([] : List (Str × Addr)) ∨ (env.cells.lookup y = some c ∧ (y, NameKind.free) ∈ scope.names)) ∧ (∀ p ∈ scope.names, p.2 = .free → ∃ c, (p.1, c) ∈ cl) ∧ cl.map (·.1) = ((scope.names.filter (·.2 == .free)).map (·.1)).reverse := by
    obtain ⟨cl, e, h1, _, h3, h4⟩ := go (fun x cs => match x with
      | (name, kind) => if kind == NameKind.free then (do let a ← cellOf env name; pure (ForInStep.yield ((name, a) :: cs))) else pure (ForInStep.yield cs)) (fun y k cs => rfl) scope.names [] h (fun y c m => nomatch m)
    have e0 : closureFor scope env = (forIn scope.names ([] : List (Str × Addr)) (fun x cs => match x with
      | (name, kind) => if kind == NameKind.free then (do let a ← cellOf env name; pure (ForInStep.yield ((name, a) :: cs))) else pure (ForInStep.yield cs)) >>= fun cs => pure cs) := rfl
    exact ⟨cl, by rw [e0, e]; rfl, h1, h3, by simpa using h4⟩
  obtain ⟨cl, e, h1, h3, h4⟩ := key
  have h1' : ∀ y c, (y, c) ∈ cl → env.cells.lookup y = some c ∧ (y, NameKind.free) ∈ scope.names := fun y c m => (h1 y c m).elim (fun q => nomatch q) id
  refine ⟨cl, e, h1', fun p hp hf => ?_, h4⟩
  · obtain ⟨c, hc⟩ := h3 p hp hf
    have e1 := (h1' _ _ hc).1
    rw [e1]
    -- the first entry under that name says the same
    have : ∀ l : List (Str × Addr), (∀ y c, (y, c) ∈ l → env.cells.lookup y = some c) → (p.1, c) ∈ l → l.lookup p.1 = some c := by
      intro l
      induction l with
      | nil => intro _ m; cases m
      | cons q r ih =>
        intro hl m
        obtain ⟨y, d⟩ := q
        rw [List.lookup_cons]
        cases e3 : p.1 == y with
        | true =>
          have := hl y d (.head _)
          rw [← beq_iff_eq.mp e3, e1] at this; exact this.symm
        | false =>
          rcases List.mem_cons.mp m with q | q
          · cases q; simp at e3
          · exact ih (fun y c m => hl y c (.tail _ m)) q
    exact this cl (fun y c m => (h1' y c m).1) hc
/-- what the frame of a comprehension knows of its names -/
structure CEnv (cenv : Env) (scope : Scope) : Prop where
  kind : ∀ x k, scope.names.lookup x = some k → k ≠ .free → cenv.kindOf x = some k
theorem CEnv.loc {cenv : Env} {scope : Scope} (C : CEnv cenv scope) {x : Str} (h : scope.names.lookup x = some .local) : cenv.kindOf x = some .local := C.kind x _ h (by decide)
theorem CEnv.glob {cenv : Env} {scope : Scope} (C : CEnv cenv scope) {x : Str} (h : scope.names.lookup x = some .globalImplicit) : cenv.kindOf x = some .globalImplicit := C.kind x _ h (by decide)
theorem lookup_relabel {env : Env} : ∀ {names : List (Str × NameKind)} {x : Str} {k : NameKind}, names.lookup x = some k →
    (names.map fun (n, k) => if (k == NameKind.free && env.scope.kind == .function && env.kindOf n == some .cell) then (n, NameKind.cell) else (n, k)).lookup x = some k ∨
    (k = .free ∧ (names.map fun (n, k) => if (k == NameKind.free && env.scope.kind == .function && env.kindOf n == some .cell) then (n, NameKind.cell) else (n, k)).lookup x = some .cell)
  | [], _, _, h => by simp at h
  | (n, k') :: r, x, k, h => by
    have ih := @lookup_relabel env r x k
    rw [List.map_cons]
    cases hx : x == n with
    | true =>
      rw [List.lookup_cons, hx] at h
      cases h
      by_cases hc : (k' == NameKind.free && env.scope.kind == .function && env.kindOf n == some .cell) = true
      · refine .inr ⟨by simp only [Bool.and_eq_true] at hc; exact beq_iff_eq.mp hc.1.1, ?_⟩
        dsimp only; rw [if_pos hc, List.lookup_cons, hx]
      · refine .inl ?_
        dsimp only; rw [if_neg hc, List.lookup_cons, hx]
    | false =>
      rw [List.lookup_cons, hx] at h
      dsimp only at ih ⊢
      by_cases hc : (k' == NameKind.free && env.scope.kind == .function && env.kindOf n == some .cell) = true
      · rw [if_pos hc, List.lookup_cons, hx]; exact ih h
      · rw [if_neg hc, List.lookup_cons, hx]; exact ih h
/-- a comprehension's target takes a value: its own names alone -/
def AssC (G : Gr) (n : Nat) (cenv : Env) (t : Expr) (d : D) (f : St → St) : Prop := ∀ σ ok A s E v, Room n A → G.base.StaysIn s.heap → Inv G.base ok cenv σ s.heap → owned σ = [] → Rep (okO ok σ) s.heap v d →
  wpAny G.M A (assign t cenv v) (fun _ s' => Inv G.base ok cenv (f σ) s'.heap ∧ Mv G.base (· = cenv.locals) s s' ∧ owned (f σ) = []) E s
theorem owned_setS_nil {x : Str} {d : D} (h : owned σ = []) : owned (setS x (.val d) σ) = [] := List.eq_nil_iff_forall_not_mem.mpr fun a m => by have := owned_setS_val m; rw [h] at this; cases this
theorem wpAny_storeL {M : Model} {A : Around} {E : Value → Shared → Prop} {s : Shared} {base : Heap} {x : Str} {v : Value} {Q : Unit → Shared → Prop} (F : Frame env s.heap) (hk : env.kindOf x = some .local)
    (h : ∀ s', Holds env s'.heap x v → (∀ y u, y ≠ x → Holds env s.heap y u → Holds env s'.heap y u) → Frame env s'.heap → Mv base (· = env.locals) s s' → Q () s') : wpAny M A (storeName env x v) Q E s := by
  obtain ⟨m, hn⟩ := F.ns
  refine wpAny_storeName_local hk hn (fun h' hn' hs' => ?_) (by rw [F.kind]; rfl)
  have hL : ∃ o, h'.get? env.locals = some o := let ⟨o, _, _, q, _⟩ := hn'; ⟨o, q⟩
  have keep : ∀ b, b ≠ env.locals → h'.get? b = s.heap.get? b := fun b hb => hs'.2 b hb
  refine h _ (.inl ⟨hk, _, hn', by simp⟩) (fun y u hy q => ?_) ⟨F.kind, ⟨_, hn'⟩, fun z c l => ?_, F.apart, F.away, F.glob, F.blt⟩ ⟨fun b o w e => ⟨o, (keep b w).trans e, rfl, rfl, fun _ => rfl⟩, fun b e => ?_, rfl, .refl⟩
  · rcases q with ⟨k, m', n', r⟩ | ⟨k, c, l, r⟩
    · refine .inl ⟨k, _, hn', ?_⟩
      have : m' y = m y := by
        obtain ⟨o, es, ep, q1, q2, _, q3⟩ := n'
        obtain ⟨o₂, es₂, ep₂, p1, p2, _, p3⟩ := hn
        rw [q1] at p1; cases p1; rw [q2] at p2; cases p2
        rw [← q3, ← p3]
      simp [hy, ← this, r]
    · exact .inr ⟨k, c, l, r.sameBut hs' (F.away y c l)⟩
  · obtain ⟨u, q⟩ := F.cells z c l
    exact ⟨u, q.sameBut hs' (F.away z c l)⟩
  · by_cases hb : b = env.locals
    · obtain ⟨o, q⟩ := hL
      have e' : h'.get? b = none := e
      rw [hb, q] at e'; cases e'
    · rw [← keep b hb]; exact e
theorem AssC.name {cenv : Env} {x : Str} {p : Pos} {d : D} (hk : cenv.kindOf x = some .local) : AssC G n cenv (.Name x p) d (setS x (.val d)) := fun σ ok A s E v r k i ho rp =>
  wpAny_assign_Name (wpAny_storeL (base := G.base) i.frame hk fun s' hv hot F m => ⟨i.set_val (m.weak fun _ w => .inl w) F hv hot rp, m, owned_setS_nil ho⟩)
/-- the names that a comprehension takes over -/
def Cap (env : Env) (σ : St) (scope : Scope) : St → Prop
  | [] => True
  | (x, .val d) :: r => (σ.lookup x = some (.val d) ∧ scope.names.lookup x = some .free ∧ env.kindOf x = some .cell) ∧ Cap env σ scope r
  | (_, .own _ _) :: _ => False
theorem Cap.get {scope : Scope} {x : Str} {d : D} : ∀ {σc : St}, Cap env σ scope σc → σc.lookup x = some (.val d) → σ.lookup x = some (.val d) ∧ scope.names.lookup x = some .free ∧ env.kindOf x = some .cell
  | (y, .val e) :: r, h, l => by
    rw [List.lookup_cons] at l
    cases q : x == y with
    | true => rw [q] at l; cases l; rw [beq_iff_eq.mp q]; exact h.1
    | false => rw [q] at l; exact Cap.get h.2 l
theorem Cap.owned {scope : Scope} : ∀ {σc : St}, Cap env σ scope σc → Mine.owned σc = []
  | [], _ => rfl
  | (y, .val e) :: r, h => Cap.owned (σc := r) h.2
  | (y, .own _ _) :: r, h => h.elim
theorem Cap.noOwn {scope : Scope} {x : Str} {a : Addr} {es : List D} : ∀ {σc : St}, Cap env σ scope σc → σc.lookup x ≠ some (.own a es)
  | [], _ => nofun
  | (y, .val e) :: r, h => by
    rw [List.lookup_cons]
    cases x == y with
    | true => exact nofun
    | false => exact Cap.noOwn h.2
  | (y, .own _ _) :: r, h => h.elim
end
end Mine
end
section
open PySem PySem.W PyProof.Rows PySem.Calls
set_option maxRecDepth 100000
namespace Mine
section
variable {G : Gr} {n : Nat} {env : Env} {σ : St} {sc : Scope}
/-- objects change that the frame's state does not lean on -/
theorem Inv.mvW {base : Heap} {ok : Addr → Prop} {W : Addr → Prop} {s s' : Shared} (i : Inv base ok env σ s.heap) (m : Mv base W s s') (hf : ∀ a, W a → ¬ Wr env σ a) (hn : ∀ a, W a → okO ok σ a → ¬ IsNode s.heap a) : Inv base ok env σ s'.heap := by
  have nf : ∀ a, okO ok σ a → IsNode s.heap a → ¬ W a := fun a o q z => hn a z o q
  have hh : ∀ y v, Holds env s.heap y v → Holds env s'.heap y v := fun y v q => by
    rcases q with ⟨k, mm, hns, r⟩ | ⟨k, c, hc, r⟩
    · obtain ⟨o, es, ep, e, d, rr⟩ := hns
      obtain ⟨o', e', _, d', _⟩ := m.ext _ o (fun z => hf _ z (.inl (.inl rfl))) e
      exact .inl ⟨k, mm, ⟨o', es, ep, e', d'.trans d, rr⟩, r⟩
    · obtain ⟨o, e, d⟩ := r
      obtain ⟨o', e', _, d', _⟩ := m.ext _ o (fun z => hf _ z (.inl (.inr ⟨y, hc⟩))) e
      exact .inr ⟨k, c, hc, o', e', d'.trans d⟩
  refine ⟨⟨i.frame.kind, ?_, fun y c q => ?_, i.frame.apart, i.frame.away, i.frame.glob, i.frame.blt⟩, i.off, fun b e => i.fresh b (m.dom b e), fun y d q => ?_, fun y b es q => ?_, fun b w => ?_, i.once⟩
  · obtain ⟨mm, o, es, ep, e, d, rr⟩ := i.frame.ns
    obtain ⟨o', e', _, d', _⟩ := m.ext _ o (fun z => hf _ z (.inl (.inl rfl))) e
    exact ⟨mm, o', es, ep, e', d'.trans d, rr⟩
  · obtain ⟨v, o, e, d⟩ := i.frame.cells y c q
    obtain ⟨o', e', _, d', _⟩ := m.ext _ o (fun z => hf _ z (.inl (.inr ⟨y, q⟩))) e
    exact ⟨v, o', e', d'.trans d⟩
  · obtain ⟨u, p, r⟩ := i.vals y d q
    exact ⟨u, hh y u p, r.extBut m.ext nf fun _ w _ => w⟩
  · obtain ⟨p, o, vs, lv, rs⟩ := i.owns y b es q
    exact ⟨hh y _ p, o, vs, m.ext.own (fun z => hf b z (.inr (owned_of_lookup q))) lv, rs.extBut m.ext nf fun _ w _ => w⟩
  · obtain ⟨vs, lv⟩ := i.there b w
    exact ⟨vs, m.ext.own (fun z => hf b z (.inr w)) lv⟩
/-- the tests of a comprehension -/
def Tests (G : Gr) (n : Nat) (cenv : Env) (σ : St) (ifs : List Expr) (b : Bool) : Prop := ∀ ok A s E, Room n A → G.base.StaysIn s.heap → Inv G.base ok cenv σ s.heap →
  wpAny G.M A (forIn ifs true fun c r => if r = true then do let ok ← isTrue c cenv (eval c cenv); pure (ForInStep.yield ok) else pure (ForInStep.yield r)) (fun r s' => Stp G.base s s' ∧ r = b) E s
theorem Tests.nil {cenv : Env} : Tests G n cenv σ [] true := fun _ _ _ _ _ _ _ => wpAny_tests_nil ⟨.refl, rfl⟩
theorem Tests.one {cenv : Env} {c : Expr} {b : Bool} (h : Tr G n cenv σ c b) : Tests G n cenv σ [c] b := fun ok A s E r k i => wpAny_tests_one (h ok A s E r k i)
theorem compLoop_any {prog : Program} {w : World} {A : Around} {R : Result → Shared → Prop} {s : Shared} {elt target iter : Expr} {ifs : List Expr} {scope : Scope} {pos : Pos} {it acc : Value} {env : Env} (I : Nat → Shared → Prop)
    (turn : ∀ n s, I n s → ∀ E, (∀ e s', False → E e s') → wpAny (model prog w) A (pyNext it) (fun r s₁ => match r with
      | none => R (.ok .next) s₁
      | some v => wpAny (model prog w) A (letOwnedTupleGo target it v) (fun _ s₁' => wpAny (model prog w) A (assign target env v) (fun _ s₂ =>
          wpAny (model prog w) A (forIn ifs true fun c r => if r = true then do let ok ← isTrue c env (eval c env); pure (ForInStep.yield ok) else pure (ForInStep.yield r)) (fun ok s₃ =>
            if ok = true then wpAny (model prog w) A (eval elt env) (fun x s₄ =>
              wpAny (model prog w) A (call (.builtin "list.append") [acc, x]) (fun _ s₅ => ∃ m, m < n ∧ I m s₅) E s₄) E s₃
            else ∃ m, m < n ∧ I m s₃) E s₂) E s₁') E s₁) E s)
    (n : Nat) (h : I n s) : codeAny (model prog w) A (.compLoop (.ListComp elt [⟨target, iter, ifs, 0⟩] scope pos) 0 it acc env) R s := by
  refine codeAny_loop rfl I (fun n s hI => ?_) n h
  show wpAny _ A ((compTurn (.ListComp elt [⟨target, iter, ifs, 0⟩] scope pos) 0 it acc env).onRaise (fun x => do noteFrame x env; theTreesLotGoes x)) _ _ s
  refine wpAny_noted ?_
  rw [compTurn_list]
  refine wpAny_bind (wpAny_standAt (wpAny_bind (wpAny_mono (turn n s hI _ (fun _ _ f => f.elim)) (fun r s₁ h₁ => ?_) fun _ _ h' => h')))
  cases r with
  | none => exact wpAny_pure h₁
  | some v =>
    refine wpAny_bind (wpAny_mono h₁ (fun _ s₁' h₁' => ?_) fun _ _ h' => h')
    refine wpAny_bind (wpAny_mono h₁' (fun _ s₂ h₂ => wpAny_bind (wpAny_mono h₂ (fun ok s₃ h₃ => ?_) fun _ _ h' => h')) fun _ _ h' => h')
    cases ok with
    | false => exact wpAny_pure ⟨rfl, h₃⟩
    | true =>
      exact wpAny_bind (wpAny_bind (wpAny_mono h₃ (fun x s₄ h₄ => wpAny_bind (wpAny_mono h₄ (fun _ s₅ h₅ => wpAny_pure (wpAny_pure ⟨rfl, h₅⟩)) fun _ _ h' => h')) fun _ _ h' => h'))
theorem comp_core {elt target iter : Expr} {ifs : List Expr} {scope : Scope} {pos ipos : Pos} {ds : List D} {σc : St} {f : D → St → St} {keep : D → Bool} {res : D → D} {use : Option (Value → Sem Unit)} {Q : Value → Shared → Prop}
    (FE : FEnv env sc) (hfree : (scope.names.all fun p => p.2 != .free || sc.names.lookup p.1 == some .cell) = true) (hnd : (scope.names.map (·.1)).Nodup) (hcell : ∀ y ∈ scope.names, y.2 ≠ .cell) (hkind : scope.kind = .function)
    (hcap : Cap env σ scope σc) (hi : EvI G n env σ iter target ds) (hsub : ∀ d ∈ ds, Sub σc (f d σc))
    (hturn : ∀ cenv, CEnv cenv scope → ∀ d ∈ ds, AssC G n cenv target d (f d) ∧ Tests G n cenv (f d σc) ifs (keep d) ∧ (keep d = true → Ev G n cenv (f d σc) elt (res d)))
    (hz : ds.length < sizeLine) (hs : ∀ x, foldedSetIterable iter env x = pure x)
    {ok : Addr → Prop} {A : Around} {s : Shared} {E : Value → Shared → Prop} (r : Room n A) (k : G.base.StaysIn s.heap) (i : Inv G.base ok env σ s.heap)
    (K : ∀ L C ws s' m, Stp G.base s s' → s.heap.get? L = none → s.heap.get? C = none → L ≠ C → OwnL s'.heap L ws → RepAll (fun b => okO ok σ b ∧ b ≠ L) s'.heap ws ((ds.filter keep).map res) → s'.heap.Ns C m → compPost G.M A E use Q (.ref L) C (.ok .next) s') :
    wpAny G.M A (comprehension (.ListComp elt [⟨target, iter, ifs, 0⟩] scope pos) scope env ipos (newList []) false (eval iter env) use) Q E s := by
  have hcells : ∀ p ∈ scope.names, p.2 = .free → (env.cells.lookup p.1).isSome = true := fun p hp hf => by
    have := List.all_eq_true.mp hfree p hp
    rw [hf] at this
    exact FE.cells p.1 (by simpa using this)
  obtain ⟨cl, hclos, hcl1, hcl2, hcl3⟩ := closureFor_is (env := env) scope hcells
  have hnames : ∀ x ∈ scope.names, x.2 = .local → scope.names.lookup x.1 = some .local := fun x hx hl => by
    have : ∀ l : List (Str × NameKind), (l.map (·.1)).Nodup → x ∈ l → l.lookup x.1 = some x.2 := by
      intro l
      induction l with
      | nil => intro _ m; cases m
      | cons y t ih =>
        intro nd m
        obtain ⟨y, ky⟩ := y
        rw [List.map_cons, List.nodup_cons] at nd
        rw [List.lookup_cons]
        rcases List.mem_cons.mp m with q | q
        · subst q; simp
        · cases e : x.1 == y with
          | true => exact absurd (List.mem_map.mpr ⟨x, q, beq_iff_eq.mp e⟩) nd.1
          | false => exact ih nd.2 q
    rw [this scope.names hnd hx, hl]
  refine wpAny_comprehension_free (cl := cl) (e := .ListComp elt [⟨target, iter, ifs, 0⟩] scope pos) rfl hs hclos hkind hnames (wpAny_mono (hi ok A s E r k i) (fun x s₁ p₁ => wpAny_mono p₁ (fun it s₂ p₂ => ?_) fun _ _ x => x) fun _ _ x => x)
  obtain ⟨st, I, fp, wr, wg, Sx, rfl, W, hst, hfp, hwr, hwg⟩ := p₂
  have i₂ := i.ext st.ext
  have k₂ := st.ext.base k
  refine wpAny_newObj_type (wpAny_newFunctionEnv hcell (by intro y hy; simp at hy) (fun h₁ hns₁ hsb₁ => ?_) hkind)
  dsimp only at hns₁ hsb₁ ⊢
  -- the new list and the new namespace
  generalize hH : s₂.heap.push { cls := .type "list", dict := none, data := .seq ([] : List Value).toArray } = H at hns₁ hsb₁ ⊢
  generalize hL : s₂.heap.objs.size = L
  generalize hC : H.objs.size = C at hns₁ hsb₁
  have hCsz : C = L + 1 := by rw [← hC, ← hH, Heap.size_push, hL]
  have hLn : s₂.heap.get? L = none := by rw [← hL]; exact fresh_get
  have hCn : s₂.heap.get? C = none := by
    cases q : s₂.heap.get? C with
    | none => rfl
    | some o => have := Heap.lt_size q; rw [hL, hCsz] at this; exact absurd this (Nat.not_lt.mpr (Nat.le_succ L))
  have hLC : L ≠ C := by rw [hCsz]; exact Nat.ne_of_lt (Nat.lt_succ_self _)
  have old : ∀ b o, s₂.heap.get? b = some o → h₁.get? b = some o := fun b o e => hsb₁.extBut b o (fun q => by rw [q, hCn] at e; cases e) (Heap.get?_push_of_some _ (hH ▸ Heap.get?_push_of_some _ e))
  have hLo : OwnL h₁ L [] := ⟨0, hsb₁.extBut _ _ hLC (Heap.get?_push_of_some _ (hH ▸ hL ▸ Heap.get?_push_size _ rfl))⟩
  generalize hs3 : ({ s₂ with heap := h₁, toks := s₂.toks + ([] : List (Str × Value)).length } : Shared) = s₃
  have hs3' : s₃ = { s₂ with heap := h₁, toks := s₂.toks + ([] : List (Str × Value)).length } := hs3.symm
  have st₃ : Stp G.base s₂ s₃ := by rw [hs3']; exact .heap old
  have hh3 : s₃.heap = h₁ := by rw [hs3']
  show codeAny G.M A (.compStart (.ListComp elt [⟨target, iter, ifs, 0⟩] scope pos) 0 (.ref I) (.ref L) (compEnvC scope cl C env)) (compPost G.M A E use Q (.ref L) C) s₃
  generalize hce' : compEnvC scope cl C env = cenv
  replace hce' := hce'.symm
  have hcloc : cenv.locals = C := by rw [hce']; rfl
  have hccells : cenv.cells = cl := by rw [hce']; rfl
  have CE : CEnv cenv scope := ⟨fun x kd hx hne => by
    rw [hce']
    rcases lookup_relabel (env := env) hx with q | q
    · exact q
    · exact absurd q.1 hne⟩
  have hfrc : ∀ a, FrW cenv a → a = C ∨ FrW env a := fun a w => by
    rcases w with w | ⟨x, w⟩
    · exact .inl (w.trans hcloc)
    · rw [hccells] at w
      exact .inr (.inr ⟨x, (hcl1 _ _ (mem_of_lookup w)).1⟩)
  have hokin : FreshOk (fun b => okO ok σ b ∧ b ≠ L) s₃.heap := fun b e => ⟨(i₂.ext st₃.ext).freshO b e, fun q => by
    have := hLo.some; rw [← hh3, ← q, e] at this; cases this⟩
  have hbase : ∀ a, s₂.heap.get? a = none → G.base.get? a = none := fun a e => by
    cases q : G.base.get? a with
    | none => rfl
    | some o => rw [k₂ a o q] at e; cases e
  have oc := hcap.owned
  have hwrc : ∀ a, Wr cenv σc a → a = C ∨ FrW env a := fun a w => by
    rcases w with w | w
    · exact hfrc a w
    · rw [oc] at w; cases w
  have inv₃ : Inv G.base (fun b => okO ok σ b ∧ b ≠ L) cenv σc s₃.heap := by
    refine ⟨⟨by rw [hce']; exact hkind, ⟨_, by rw [hcloc, hh3]; exact hns₁⟩, fun x c l => ?_, ?_, fun x c l => ?_, by rw [hce']; exact i.frame.glob, by rw [hce']; exact i.frame.blt⟩, fun a w => ?_, hokin, fun x d l => ?_, fun x a es l => absurd l hcap.noOwn, fun a w => (by rw [oc] at w; cases w), (by rw [oc]; exact List.nodup_nil)⟩
    · rw [hccells] at l
      obtain ⟨v, q⟩ := i₂.frame.cells x c (hcl1 _ _ (mem_of_lookup l)).1
      exact ⟨v, st₃.ext.cell q⟩
    · rw [hccells]
      -- different names, different cells
      have : ∀ l : List (Str × Addr), (∀ y c, (y, c) ∈ l → env.cells.lookup y = some c) → (l.map (·.1)).Nodup → l.Pairwise fun x y => x.2 ≠ y.2 := by
        intro l
        induction l with
        | nil => intro _ _; exact List.Pairwise.nil
        | cons q t ih =>
          intro hl nd
          rw [List.map_cons, List.nodup_cons] at nd
          refine List.pairwise_cons.mpr ⟨fun p hp e => nd.1 (List.mem_map.mpr ⟨p, hp, ?_⟩), ih (fun y c m => hl y c (.tail _ m)) nd.2⟩
          exact (cells_inj i.frame.apart (hl q.1 q.2 (.head _)) (e ▸ hl p.1 p.2 (.tail _ hp))).symm
      refine this cl (fun y c m => (hcl1 y c m).1) ?_
      rw [hcl3]
      exact List.pairwise_reverse.mpr ((hnd.sublist (List.filter_sublist.map _)).imp fun q e => q e.symm)
    · rw [hccells] at l
      rw [hcloc]
      intro e
      obtain ⟨v, o, q, _⟩ := i₂.frame.cells x c (hcl1 _ _ (mem_of_lookup l)).1
      rw [e, hCn] at q; cases q
    · rcases hwrc a w with q | q
      · rw [q]; exact hbase C hCn
      · exact i.off a (.inl q)
    · obtain ⟨q1, q2, q3⟩ := hcap.get l
      obtain ⟨v, hv, rp⟩ := i₂.vals x d q1
      refine ⟨v, ?_, rp.ext st₃.ext fun b w z => ⟨⟨w, fun e => by rw [e, hLn] at z; cases z⟩, by rw [oc]; simp⟩⟩
      rcases hv with ⟨kd, _⟩ | ⟨_, c, hc, hv⟩
      · rw [q3] at kd; cases kd
      · refine .inr ⟨?_, c, ?_, st₃.ext.cell hv⟩
        · rw [hce']
          rcases lookup_relabel (env := env) q2 with q | q
          · exact .inr q
          · exact .inl q.2
        · rw [hccells, hcl2 _ (mem_of_lookup q2) rfl]; exact hc
  have loop : codeAny G.M A (.compLoop (.ListComp elt [⟨target, iter, ifs, 0⟩] scope pos) 0 (.ref I) (.ref L) cenv) (compPost G.M A E use Q (.ref L) C) s₃ := by
    have hfpL : ∀ a, fp a → a ≠ L := fun a q e => by have := (hfp a q).1; rw [e, hLn] at this; cases this
    have hfpC : ∀ a, fp a → a ≠ C := fun a q e => by have := (hfp a q).1; rw [e, hCn] at this; cases this
    have hok0 : ∀ a, (okO ok σ a ∧ (s₂.heap.get? a).isSome = true) → okO ok σ a ∧ a ≠ L := fun a q => ⟨q.1, fun e => by have := q.2; rw [e, hLn] at this; cases this⟩
    have hok0C : ∀ a, (okO ok σ a ∧ (s₂.heap.get? a).isSome = true) → a ≠ C := fun a q e => by have := q.2; rw [e, hCn] at this; cases this
    have hwrw : ∀ a, wr a → ¬ Wr cenv σc a := fun a q w => by
      rcases hwrc a w with z | z
      · exact hfpC a (hwr a q).2 z
      · exact (hfp a (hwr a q).2).2 (.inl z)
    have hLw : ¬ Wr cenv σc L := fun w => by
      rcases hwrc L w with z | z
      · exact hLC z
      · rcases z with z | ⟨x, z⟩
        · obtain ⟨m, o, _, _, q, _⟩ := i₂.frame.ns; rw [← z, hLn] at q; cases q
        · obtain ⟨v, o, q, _⟩ := i₂.frame.cells x L z; rw [hLn] at q; cases q
    have hsL : s.heap.get? L = none := st.ext.none hLn
    have hsC : s.heap.get? C = none := st.ext.none hCn
    refine compLoop_any (fun m s' => ∃ j ws, j ≤ ds.length ∧ m = ds.length + 1 - j ∧ Sx j s' ∧ OwnL s'.heap L ws ∧ RepAll (fun b => okO ok σ b ∧ b ≠ L) s'.heap ws (((ds.take j).filter keep).map res) ∧
      Inv G.base (fun b => okO ok σ b ∧ b ≠ L) cenv σc s'.heap ∧ Stp G.base s s' ∧ G.base.StaysIn s'.heap) ?_ (ds.length + 1)
      ⟨0, [], Nat.zero_le _, by omega, W.frame 0 s₂ s₃ (fun _ => False) hst st₃.mv (fun _ _ z => z) (fun _ _ _ z => z), by rw [hh3]; exact hLo, .nil, inv₃, st.trans st₃, st₃.ext.base k₂⟩
    rintro m s' ⟨j, ws, hj, rfl, hSx, hown, hrep, hinv, hstp, hk⟩ E' _
    have hnode : ∀ {P : Addr → Prop} a, P a → IsNode s'.heap a → ¬ wr a := fun a _ nd z => (W.node j s' a hSx z).1 nd
    by_cases hlt : j < ds.length
    · have hd : ds[j]? = some ds[j] := List.getElem?_eq_getElem hlt
      have hdm : ds[j] ∈ ds := List.getElem_mem hlt
      obtain ⟨hass, htest, helt⟩ := hturn cenv CE ds[j] hdm
      refine wpAny_mono (W.item j ds[j] s' E' (fun b => okO ok σ b ∧ b ≠ L) hd hSx hk hok0 hinv.fresh) (fun r' s₄ q => ?_) fun _ _ x => x
      obtain ⟨v, rfl, q⟩ := q
      refine wpAny_mono q (fun _ s₅ q => ?_) fun _ _ x => x
      obtain ⟨rp, hSx₅, mi⟩ := q
      have inv₅ := hinv.mvI mi hwrw (fun a w => (W.node j s' a hSx w).1) fun b w => ⟨i.freshO b (hwr b w).1, hfpL b (hwr b w).2⟩
      have st₅ : Stp G.base s s₅ := (MvI.after (hstp.mv (W := fun _ => False)) mi (fun a w => (hwr a w).1) hwg).stp fun _ z => z.elim
      have own₅ : OwnL s₅.heap L ws := mi.ext.own (fun z => hfpL L (hwr L z).2 rfl) hown
      have rep₅ : RepAll (fun b => okO ok σ b ∧ b ≠ L) s₅.heap ws _ := hrep.extBut mi.ext hnode fun _ q _ => q
      refine wpAny_mono (hass σc _ A s₅ E' v r (st₅.ext.base k) inv₅ oc (rp.weak fun b q => ⟨q, by rw [oc]; simp⟩)) (fun _ s₆ q => ?_) fun _ _ x => x
      obtain ⟨inv₆, mv₆, ow₆⟩ := q
      rw [hcloc] at mv₆
      have st₆ : Stp G.base s s₆ := ((st₅.mv (W := fun _ => False)).trans (mv₆) fun p w => .inr (w ▸ hsC)).stp fun _ z => z.elim
      have own₆ : OwnL s₆.heap L ws := mv₆.ext.own hLC own₅
      have rep₆ : RepAll (fun b => okO ok σ b ∧ b ≠ L) s₆.heap ws _ := rep₅.extBut mv₆.ext (fun a _ nd z => node_not_frame inv₅.frame nd (.inl (z.trans hcloc.symm))) fun _ q _ => q
      have hSx₆ : Sx (j + 1) s₆ := W.frame (j + 1) s₅ s₆ _ hSx₅ mv₆ (fun a q z => hfpC a q z) (fun a q _ z => hok0C a q z)
      refine wpAny_mono (htest _ A s₆ E' r (st₆.ext.base k) inv₆) (fun ok' s₇ q => ?_) fun _ _ x => x
      obtain ⟨st₇, rfl⟩ := q
      have inv₇ := inv₆.ext st₇.ext
      have own₇ := st₇.ext.own own₆
      have rep₇ := rep₆.stp st₇
      have hSx₇ : Sx (j + 1) s₇ := W.frame (j + 1) s₆ s₇ (fun _ => False) hSx₆ st₇.mv (fun _ _ z => z) (fun _ _ _ z => z)
      have st₇' := st₆.trans st₇
      have hns : (owned σc).Nodup := by rw [oc]; exact List.nodup_nil
      have htake : ds.take (j + 1) = ds.take j ++ [ds[j]] := by rw [List.take_add_one, hd]; rfl
      split
      · rename_i hkp
        refine wpAny_mono (helt hkp _ A s₇ E' r (st₇'.ext.base k) inv₇) (fun v' s₈ q => ?_) fun _ _ x => x
        obtain ⟨st₈, rp₈⟩ := q
        have st₈' := st₇'.trans st₈
        obtain ⟨nn, hLe⟩ := st₈.ext.own own₇
        have rep₈ := rep₇.stp st₈
        have hsz : ws.length ≤ ds.length := by
          rw [rep₈.length, List.length_map]
          exact Nat.le_trans (List.length_filter_le _ _) (by rw [List.length_take]; exact Nat.min_le_right _ _)
        refine append_at (hsz := by rw [List.size_toArray]; omega) hLe fun h' hs' hl' => ?_
        have mv₉ : Mv G.base (· = L) s₈ { s₈ with heap := h' } := ⟨fun b o w e => ⟨o, (hs'.2 b w).trans e, rfl, rfl, fun _ => rfl⟩, fun b e => (by
          by_cases hb : b = L
          · have e' : h'.get? b = none := e
            rw [hb, hl'] at e'; cases e'
          · rw [← hs'.2 b hb]; exact e), rfl, .refl⟩
        have st₉ : Stp G.base s { s₈ with heap := h' } := ((st₈'.mv (W := fun _ => False)).trans mv₉ fun p w => .inr (w ▸ hsL)).stp fun _ z => z.elim
        have hSx₈ : Sx (j + 1) s₈ := W.frame (j + 1) s₇ s₈ (fun _ => False) hSx₇ st₈.mv (fun _ _ z => z) (fun _ _ _ z => z)
        refine ⟨ds.length + 1 - (j + 1), by omega, j + 1, ws ++ [v'], hlt, rfl, W.frame (j + 1) s₈ _ _ hSx₈ mv₉ (fun a q z => hfpL a q z) (fun a q _ z => (hok0 a q).2 z), ⟨nn + 1, by rw [hl']; simp⟩, ?_, ?_, st₉, st₉.ext.base k⟩
        · rw [htake, List.filter_append, List.map_append]
          have e1 : [ds[j]].filter keep = [ds[j]] := by simp [hkp]
          rw [e1]
          exact (rep₈.extBut mv₉.ext (fun a q _ z => q.2 z) fun _ q _ => q).append (.cons ((rp₈.weak fun b q => q.1).extBut mv₉.ext (fun a q _ z => q.2 z) fun _ q _ => q) .nil)
        · have inv₈ := (inv₇.ext st₈.ext).sub (hsub _ hdm) hns
          exact inv₈.mvW mv₉ (fun a z w => hLw (z ▸ w)) (fun a z o _ => o.1.2 z)
      · rename_i hkp
        refine ⟨ds.length + 1 - (j + 1), by omega, j + 1, ws, hlt, rfl, hSx₇, own₇, ?_, inv₇.sub (hsub _ hdm) hns, st₇', st₇'.ext.base k⟩
        rw [htake, List.filter_append, List.map_append]
        have e1 : [ds[j]].filter keep = [] := by simp [hkp]
        rw [e1]; simpa using rep₇
    · have hjl : j = ds.length := by omega
      subst hjl
      refine wpAny_mono (W.done s' _ hSx hk) (fun r' s₄ q => ?_) fun _ _ x => x
      obtain ⟨rfl, mi⟩ := q
      have inv₄ := hinv.mvI mi hwrw (fun a w => (W.node _ s' a hSx w).1) fun b w => ⟨i.freshO b (hwr b w).1, hfpL b (hwr b w).2⟩
      have st₄ : Stp G.base s s₄ := (MvI.after (hstp.mv (W := fun _ => False)) mi (fun a w => (hwr a w).1) hwg).stp fun _ z => z.elim
      obtain ⟨mm, hmm⟩ := inv₄.frame.ns
      rw [hcloc] at hmm
      rw [List.take_length] at hrep
      exact K L C ws s₄ mm st₄ hsL hsC hLC (mi.ext.own (fun z => hfpL L (hwr L z).2 rfl) hown) (hrep.extBut mi.ext hnode fun _ q _ => q) hmm
  refine codeAny_compStart_list loop (W.self 0 s₃ _ _ (W.frame 0 s₂ s₃ (fun _ => False) hst st₃.mv (fun _ _ z => z) (fun _ _ _ z => z)) loop)
end
end Mine
end
section
open PySem PySem.W PyProof.Rows PySem.Calls
set_option maxRecDepth 100000
namespace Mine
section
variable {G : Gr} {n : Nat} {env : Env} {σ : St} {sc : Scope}
theorem ns_not_node {h : Heap} {a : Addr} {m : Str → Option Value} (n : h.Ns a m) : ¬ IsNode h a := fun q => by
  obtain ⟨o, es, ep, q1, d, _⟩ := n
  cases q with
  | list l => obtain ⟨o', q', _, k, d'⟩ := l; rw [q1] at q'; cases q'; rw [d] at d'; cases d'
  | tup l => obtain ⟨o', q', _, k, d'⟩ := l; rw [q1] at q'; cases q'; rw [d] at d'; cases d'
  | slice q' _ d' => rw [q1] at q'; cases q'; rw [d] at d'; cases d'
  | rng q' => unfold IsRange at q'; rw [q1] at q'; cases q'; cases d
theorem sameBut_ext {base : Heap} {C : Addr} {h h' : Heap} (hs : Heap.SameBut C h h') : ExtBut base (· = C) h h' := fun b o w e => ⟨o, (hs.2 b w).trans e, rfl, rfl, fun _ => rfl⟩
theorem Inv.butW {base : Heap} {ok : Addr → Prop} {W : Addr → Prop} {h h' : Heap} (i : Inv base ok env σ h) (m : ExtBut base W h h') (fr : FreshOk ok h') (hf : ∀ a, W a → ¬ Wr env σ a) (hn : ∀ a, W a → okO ok σ a → ¬ IsNode h a) : Inv base ok env σ h' := by
  have nf : ∀ a, okO ok σ a → IsNode h a → ¬ W a := fun a o q z => hn a z o q
  have hh : ∀ y v, Holds env h y v → Holds env h' y v := fun y v q => by
    rcases q with ⟨k, mm, hns, r⟩ | ⟨k, c, hc, r⟩
    · obtain ⟨o, es, ep, e, d, rr⟩ := hns
      obtain ⟨o', e', _, d', _⟩ := m _ o (fun z => hf _ z (.inl (.inl rfl))) e
      exact .inl ⟨k, mm, ⟨o', es, ep, e', d'.trans d, rr⟩, r⟩
    · obtain ⟨o, e, d⟩ := r
      obtain ⟨o', e', _, d', _⟩ := m _ o (fun z => hf _ z (.inl (.inr ⟨y, hc⟩))) e
      exact .inr ⟨k, c, hc, o', e', d'.trans d⟩
  refine ⟨⟨i.frame.kind, ?_, fun y c q => ?_, i.frame.apart, i.frame.away, i.frame.glob, i.frame.blt⟩, i.off, fr, fun y d q => ?_, fun y b es q => ?_, fun b w => ?_, i.once⟩
  · obtain ⟨mm, o, es, ep, e, d, rr⟩ := i.frame.ns
    obtain ⟨o', e', _, d', _⟩ := m _ o (fun z => hf _ z (.inl (.inl rfl))) e
    exact ⟨mm, o', es, ep, e', d'.trans d, rr⟩
  · obtain ⟨v, o, e, d⟩ := i.frame.cells y c q
    obtain ⟨o', e', _, d', _⟩ := m _ o (fun z => hf _ z (.inl (.inr ⟨y, q⟩))) e
    exact ⟨v, o', e', d'.trans d⟩
  · obtain ⟨u, p, r⟩ := i.vals y d q
    exact ⟨u, hh y u p, r.extBut m nf fun _ w _ => w⟩
  · obtain ⟨p, o, vs, lv, rs⟩ := i.owns y b es q
    exact ⟨hh y _ p, o, vs, m.own (fun z => hf b z (.inr (owned_of_lookup q))) lv, rs.extBut m nf fun _ w _ => w⟩
  · obtain ⟨vs, lv⟩ := i.there b w
    exact ⟨vs, m.own (fun z => hf b z (.inr w)) lv⟩
/-- what a comprehension gives -/
structure CompOk (G : Gr) (n : Nat) (env : Env) (σ : St) (sc : Scope) (elt target iter : Expr) (ifs : List Expr) (scope : Scope) (out : List D) : Prop where
  go : ∀ {pos ipos : Pos} {use : Option (Value → Sem Unit)} {Q : Value → Shared → Prop} {ok : Addr → Prop} {A : Around} {s : Shared} {E : Value → Shared → Prop}, Room n A → G.base.StaysIn s.heap → Inv G.base ok env σ s.heap →
    (∀ L C ws s' m, Stp G.base s s' → s.heap.get? L = none → s.heap.get? C = none → L ≠ C → OwnL s'.heap L ws → RepAll (fun b => okO ok σ b ∧ b ≠ L) s'.heap ws out → s'.heap.Ns C m → compPost G.M A E use Q (.ref L) C (.ok .next) s') →
    wpAny G.M A (comprehension (.ListComp elt [⟨target, iter, ifs, 0⟩] scope pos) scope env ipos (newList []) false (eval iter env) use) Q E s
theorem CompOk.mk' {elt target iter : Expr} {ifs : List Expr} {scope : Scope} {ds : List D} {σc : St} {f : D → St → St} {keep : D → Bool} {res : D → D} {out : List D}
    (FE : FEnv env sc) (hcap : Cap env σ scope σc) (hi : EvI G n env σ iter target ds) (hsub : ∀ d ∈ ds, Sub σc (f d σc))
    (hturn : ∀ cenv, CEnv cenv scope → ∀ d ∈ ds, AssC G n cenv target d (f d) ∧ Tests G n cenv (f d σc) ifs (keep d) ∧ (keep d = true → Ev G n cenv (f d σc) elt (res d)))
    (hz : ds.length < sizeLine) (ho : (ds.filter keep).map res = out)
    (hfree : (scope.names.all fun p => p.2 != .free || sc.names.lookup p.1 == some .cell) = true := by decide) (hnd : (scope.names.map (·.1)).Nodup := by decide) (hcell : ∀ y ∈ scope.names, y.2 ≠ .cell := by decide) (hkind : scope.kind = .function := by rfl)
    (hs : ∀ x, foldedSetIterable iter env x = pure x := by intro _; rfl) : CompOk G n env σ sc elt target iter ifs scope out :=
  ⟨fun r k i K => comp_core FE hfree hnd hcell hkind hcap hi hsub hturn hz hs r k i (by rw [ho]; exact K)⟩
/-- x = [.. for ..], the store under way while the loop's frame goes -/
theorem Ex1.assignComp {x : Str} {elt target iter : Expr} {ifs : List Expr} {scope : Scope} {p pos spos : Pos} {out : List D} (h : CompOk G n env σ sc elt target iter ifs scope out) (hx : Storable env x)
    (hs : swapsWith (.ListComp elt [⟨target, iter, ifs, 0⟩] scope pos) (some (.Name x p)) spos.line env = pure true) :
    Ex1 G n env σ (.Assign [.Name x p] (.ListComp elt [⟨target, iter, ifs, 0⟩] scope pos) spos) fun fl σ' => fl = .next ∧ ∃ a, σ' = setS x (.own a out) σ := fun ok A s E r k i => by
  rw [exec_Assign_Name_used _ _ _ _ hs]
  refine wpAny_bind (wpAny_standAt (wpAny_bind ?_))
  show wpAny _ A (do let _ ← comprehension (.ListComp elt [⟨target, iter, ifs, 0⟩] scope pos) scope env _ (newList []) false (eval iter env) (some (PySem.assign (.Name x p) env))) _ _ s
  refine wpAny_bind (wpAny_mono (h.go (use := some (PySem.assign (.Name x p) env)) (Q := fun _ s' => After G env σ ok s (fun fl σ' => fl = .next ∧ ∃ a, σ' = setS x (.own a out) σ) .next s') r k i fun L C ws s' m st hL hC hLC l rs hn => ?_)
    (fun _ s' hq => wpAny_pure (wpAny_pure hq)) fun _ _ e => e)
  show wpAny _ A (PySem.assign (.Name x p) env (.ref L)) _ _ _
  refine wpAny_assign_Name ?_
  have i₁ := i.ext st.ext
  have hCF : ¬ FrW env C := fun w => by
    rcases w with z | ⟨x, z⟩
    · obtain ⟨m, o, _, _, q, _⟩ := i.frame.ns; rw [← z, hC] at q; cases q
    · obtain ⟨v, o, q, _⟩ := i.frame.cells x C z; rw [hC] at q; cases q
  refine wpAny_store (base := G.base) i₁.frame hx fun s₂ hv ho F mv => ?_
  have hn₂ : s₂.heap.Ns C m := by
    obtain ⟨o, es, ep, e, d, rr⟩ := hn
    obtain ⟨o', e', _, d', _⟩ := mv.ext _ o hCF e
    exact ⟨o', es, ep, e', d'.trans d, rr⟩
  refine ⟨m, hn₂, fun h' hs' => ?_⟩
  obtain ⟨i', m', k', o'⟩ := After.own k i st hL l rs hv ho F mv
  have fr : FreshOk ok h' := fun b e => by
    by_cases hb : b = C
    · rw [hb]; exact i.fresh C hC
    · exact i'.fresh b ((hs'.2 b hb).symm.trans e)
  have hCo : ¬ Wr env (setS x (.own L out) σ) C := fun w => by
    rcases w with w | w
    · exact hCF w
    · rcases o' C w with w | w
      · obtain ⟨vs, q⟩ := i.there C w; have := q.some; rw [hC] at this; cases this
      · exact hLC w.symm
  have mm : Mv G.base (Wr env σ) s { s₂ with heap := h' } := ⟨fun b o w e => by
      obtain ⟨o', e', c', d', k'⟩ := m'.ext b o w e
      have hb : b ≠ C := fun q => by rw [q, hC] at e; cases e
      exact ⟨o', (hs'.2 b hb).trans e', c', d', k'⟩, fun b e => (by
      by_cases hb : b = C
      · rw [hb]; exact hC
      · exact m'.dom b ((hs'.2 b hb).symm.trans e)), m'.os, m'.gens⟩
  exact ⟨.next, _, ⟨rfl, L, rfl⟩, trivial, i'.butW (sameBut_ext hs') fr (fun a e => e ▸ hCo) (fun a e _ => e ▸ ns_not_node hn₂), mm, mm.base k i.off, fun b w => (o' b w).imp id fun w => by rw [w]; exact hL⟩
/-- an item of a list of the frame's own -/
theorem Ev.itemOwn {x : Str} {p q : Pos} {ie : Expr} {a : Addr} {ds : List D} {j : Int} {d : D} (l : σ.lookup x = some (.own a ds)) (hi : Ev G n env σ ie (.int j))
    (hj : (0 ≤ j ∧ ds[j.toNat]? = some d ∧ ds.length < 2 ^ 62) ∨ (j < 0 ∧ -(ds.length : Int) ≤ j ∧ -(2 ^ 62) ≤ j ∧ ds[(j + ds.length).toNat]? = some d))
    (hs : ∀ a b, ∃ ops, subscripted ie false a b = operate ops (getItem a b) := by intro a b; first | exact ⟨[a, b], rfl⟩ | exact ⟨[b, a], rfl⟩)
    (hd : (x == ("__debug__" : Str)) = false := by decide) (hc : (x == ("__classdict__" : Str)) = false := by decide) : Ev G n env σ (.Subscript (.Name x p) ie q) d := fun ok A s E r k i => by
  obtain ⟨hv, o, vs, lv, rs⟩ := i.owns x a ds l
  refine Subscript_ (wpAny_holds i.frame.kind hv ?_ hd hc)
  refine wpAny_mono (hi ok A s E r k i) (fun vi s₁ p₁ => ?_) fun _ _ x => x
  obtain ⟨st, rp⟩ := p₁
  cases rp
  obtain ⟨ops, hs⟩ := hs (.ref a) (.int j _)
  have lv₁ := st.ext.own lv
  have rs₁ := rs.stp st
  refine tail_any lv₁.list.typeIs slot_list_getitem.lookup ?_ hs
  rcases hj with ⟨h0, h1, h2⟩ | ⟨h0, h1, h2, h3⟩
  · obtain ⟨v, hv, rv⟩ := rs₁.get h1
    have : j.toNat < ds.length := by
      obtain ⟨w, _⟩ := List.getElem?_eq_some_iff.mp h1; exact w
    exact wpAny_getItem_list lv₁.list h0 (by omega) (by simpa using hv) ⟨st, rv⟩
  · obtain ⟨v, hv, rv⟩ := rs₁.get h3
    exact wpAny_getItem_list_neg lv₁.list h0 (by rw [List.size_toArray, rs₁.length]; exact h1) (by omega) (by rw [List.size_toArray, rs₁.length]; simpa using hv) ⟨st, rv⟩
end
end Mine
end
section
open PySem PySem.W PyProof.Rows PySem.Calls
set_option maxRecDepth 100000
namespace Mine
theorem own_inj {x y : Str} {a : Addr} {es fs : List D} : ∀ {σ : St}, (owned σ).Nodup → σ.lookup x = some (.own a es) → σ.lookup y = some (.own a fs) → x = y
  | (z, t) :: r, nd, hx, hy => by
    rw [List.lookup_cons] at hx hy
    rw [owned_cons] at nd
    cases ex : x == z with
    | true =>
      rw [ex] at hx; cases hx
      cases ey : y == z with
      | true => rw [beq_iff_eq.mp ex, beq_iff_eq.mp ey]
      | false =>
        rw [ey] at hy
        exact absurd (owned_of_lookup hy) (List.nodup_cons.mp nd).1
    | false =>
      rw [ex] at hx
      cases ey : y == z with
      | true =>
        rw [ey] at hy; cases hy
        exact absurd (owned_of_lookup hx) (List.nodup_cons.mp nd).1
      | false =>
        rw [ey] at hy
        exact own_inj (List.nodup_append.mp nd).2.1 hx hy
theorem owned_mem : ∀ {σ : St} {a : Addr}, a ∈ owned σ → ∃ x es, (x, Slot.own a es) ∈ σ
  | (z, t) :: r, a, h => by
    rw [owned_cons] at h
    rcases List.mem_append.mp h with h | h
    · cases t with
      | val d => cases h
      | own b es => rw [List.mem_singleton.mp h]; exact ⟨z, es, .head _⟩
    · obtain ⟨x, es, q⟩ := owned_mem h
      exact ⟨x, es, .tail _ q⟩
theorem Sub.mem {σ₀ σ : St} (h : Sub σ₀ σ) : ∀ {x s}, (x, s) ∈ σ₀ → σ.lookup x = some s := by
  induction σ₀ with
  | nil => intro _ _ q; cases q
  | cons y r ih =>
    intro x s q
    rcases List.mem_cons.mp q with q | q
    · cases q; exact h.1
    · exact ih h.2 q
theorem Sub.nodup {σ : St} (nd : (Mine.owned σ).Nodup) : ∀ {σ₀ : St}, (σ₀.map (·.1)).Nodup → Sub σ₀ σ → (Mine.owned σ₀).Nodup
  | [], _, _ => List.nodup_nil
  | (x, t) :: r, hn, hs => by
    rw [List.map_cons, List.nodup_cons] at hn
    have ih := Sub.nodup nd hn.2 hs.2
    cases t with
    | val d => exact ih
    | own a es =>
      refine List.nodup_cons.mpr ⟨fun q => ?_, ih⟩
      obtain ⟨y, fs, q⟩ := owned_mem q
      have : x = y := own_inj nd hs.1 (Sub.mem hs.2 q)
      exact hn.1 (List.mem_map.mpr ⟨_, q, this.symm⟩)
section
variable {G : Gr} {n : Nat} {env : Env} {σ : St} {sc : Scope}
theorem Ex1.only {σ₀ : St} {st : Stmt} {Q : Fl → St → Prop} (hs : Sub σ₀ σ) (h : Ex1 G n env σ₀ st Q) (hn : (σ₀.map (·.1)).Nodup := by simp; try decide) : Ex1 G n env σ st Q := fun ok A s E r k i =>
  wpAny_mono (h ok A s E r k (i.sub hs (Sub.nodup i.once hn hs))) (fun _ _ a => a.sub hs.owned) fun _ _ x => x
theorem Ex.post {body : List Stmt} {Q Q' : Fl → St → Prop} (h : Ex G n env σ body Q) (hq : ∀ fl σ', Q fl σ' → Q' fl σ' ∨ ∃ σ₀, Sub σ₀ σ' ∧ (σ₀.map (·.1)).Nodup ∧ Q' fl σ₀) : Ex G n env σ body Q' := fun ok A s E r k i =>
  wpAny_mono (h ok A s E r k i) (fun f s' a => by
    obtain ⟨fl, σ', q, fi, i', m, k', o⟩ := a
    rcases hq fl σ' q with q' | ⟨σ₀, hs, hn, q'⟩
    · exact ⟨fl, σ', q', fi, i', m, k', o⟩
    exact ⟨fl, σ₀, q', fi, i'.sub hs (Sub.nodup i'.once hn hs), m, k', fun b w => o b (hs.owned b w)⟩) fun _ _ x => x
theorem Sub.refl' : ∀ {σ₀ : St}, (σ₀.map (·.1)).Nodup → Sub σ₀ σ₀ := by
  have go : ∀ {r σ₀ : St}, (σ₀.map (·.1)).Nodup → (∀ p ∈ r, p ∈ σ₀) → Sub r σ₀ := by
    intro r
    induction r with
    | nil => intro _ _ _; trivial
    | cons y r ih =>
      intro σ₀ nd h
      refine ⟨?_, ih nd fun p hp => h p (.tail _ hp)⟩
      have hm := h y (.head _)
      clear ih h
      induction σ₀ with
      | nil => cases hm
      | cons z t ih =>
        rw [List.map_cons, List.nodup_cons] at nd
        obtain ⟨z, s⟩ := z
        rw [List.lookup_cons]
        rcases List.mem_cons.mp hm with e | e
        · cases e; simp
        · cases q : y.1 == z with
          | true => exact absurd (List.mem_map.mpr ⟨y, e, beq_iff_eq.mp q⟩) nd.1
          | false => exact ih nd.2 e
  intro σ₀ nd
  exact go nd fun _ h => h
/-- what a turn of a loop leaves -/
def Turn {ι : Type} (S : ι → St) (K : St → Prop) (Q : Fl → St → Prop) (fl : Fl) (σ₂ : St) : Prop := match fl with
  | .next | .cont => ∃ p, Sub (S p) σ₂
  | .brk => K σ₂
  | .ret r => Q (.ret r) σ₂
/-- the same, with a word on the state's numbers -/
def TurnJ {ι : Type} (S : ι → St) (J : ι → Prop) (K : St → Prop) (Q : Fl → St → Prop) (fl : Fl) (σ₂ : St) : Prop := match fl with
  | .next | .cont => ∃ p, J p ∧ Sub (S p) σ₂
  | .brk => K σ₂
  | .ret r => Q (.ret r) σ₂
theorem Ex.forJ {ι : Type} {target iter : Expr} {body rest : List Stmt} {pos : Pos} {ds : List D} {f : D → St → St} {Q : Fl → St → Prop} (S : Nat → ι → St) (J : Nat → ι → Prop) (p₀ : ι) (hJ : J 0 p₀) (h0 : Sub (S 0 p₀) σ) (nd : ∀ i p, ((S i p).map (·.1)).Nodup)
    (hi : EvI G n env (S 0 p₀) iter target ds) (ht : ∀ d ∈ ds, AssD G n env target d (f d))
    (turn : ∀ i d p, ds[i]? = some d → J i p → Ex G n env (f d (S i p)) body (TurnJ (S (i + 1)) (J (i + 1)) (fun σ₂ => Ex G n env σ₂ rest Q) Q))
    (done : ∀ p, J ds.length p → Ex G n env (S ds.length p) rest Q) (hs : ∀ x, foldedSetIterable iter env x = pure x := by intro _; rfl) : Ex G n env σ (.For target iter body [] pos :: rest) Q := by
  refine Ex.cons (Ex1.only h0 ?_ (nd _ _))
  refine Ex1.for (f := f) hi ht (fun i σ₁ => ∃ p, J i p ∧ σ₁ = S i p) ⟨p₀, hJ, rfl⟩ (fun i d σ₁ hd hJ => ?_) (fun σ₁ hJ => ?_) hs
  · obtain ⟨p, hj, rfl⟩ := hJ
    refine (turn i d p hd hj).post fun fl σ' h => ?_
    cases fl with
    | next => obtain ⟨p', hj', hp⟩ := h; exact .inr ⟨_, hp, nd _ _, p', hj', rfl⟩
    | cont => obtain ⟨p', hj', hp⟩ := h; exact .inr ⟨_, hp, nd _ _, p', hj', rfl⟩
    | brk => exact .inl h
    | ret r => exact .inl h
  · obtain ⟨p, hj, rfl⟩ := hJ
    exact done p hj
theorem Ex.forS {ι : Type} {target iter : Expr} {body rest : List Stmt} {pos : Pos} {ds : List D} {f : D → St → St} {Q : Fl → St → Prop} (S : Nat → ι → St) (p₀ : ι) (h0 : Sub (S 0 p₀) σ) (nd : ∀ i p, ((S i p).map (·.1)).Nodup)
    (hi : EvI G n env (S 0 p₀) iter target ds) (ht : ∀ d ∈ ds, AssD G n env target d (f d))
    (turn : ∀ i d p, ds[i]? = some d → Ex G n env (f d (S i p)) body (Turn (S (i + 1)) (fun σ₂ => Ex G n env σ₂ rest Q) Q))
    (done : ∀ p, Ex G n env (S ds.length p) rest Q) (hs : ∀ x, foldedSetIterable iter env x = pure x := by intro _; rfl) : Ex G n env σ (.For target iter body [] pos :: rest) Q := by
  refine Ex.forJ S (fun _ _ => True) p₀ trivial h0 nd hi ht (fun i d p hd _ => (turn i d p hd).mono fun fl σ' h => ?_) (fun p _ => done p) hs
  cases fl with
  | next => obtain ⟨p, h⟩ := h; exact ⟨p, trivial, h⟩
  | cont => obtain ⟨p, h⟩ := h; exact ⟨p, trivial, h⟩
  | brk => exact h
  | ret r => exact h
end
end Mine
end
section
open PySem PySem.W PyProof.Rows PySem.Calls
set_option maxRecDepth 100000
namespace Mine
section
variable {G : Gr} {n : Nat} {env : Env} {σ : St} {sc : Scope}
theorem fn_ev {d : DefRec} {a : Addr} {p : Pos} (F : FnAt G d a) (hk : env.kindOf d.name = some .globalImplicit) (hd : (d.name == ("__debug__" : Str)) = false := by decide) : Ev G n env σ (.Name d.name p) (.raw (.ref a)) :=
  .global hk F.name (fun _ _ => .raw _) hd
theorem FnAt.callee {d : DefRec} {a : Addr} (F : FnAt G d a) : Callee G (.ref a) := by
  obtain ⟨o, pm, code, doc, h1, h2, _⟩ := F.obj
  exact .fn h1 h2
theorem CallD.fn1 {d : DefRec} {a : Addr} {d1 r : D} {x : Str} (F : FnAt G d a) (h : ∀ env, FEnv env d.scope → Ex G n env [(x, .val d1)] d.body fun fl _ => fl = .ret r)
    (hx : d.params.args.map (·.arg) = [x] := by rfl) (hb : ∀ pm code doc v, bindArgs (docDef d.name d.params d.body d.scope pm code doc) ⟨[v], []⟩ = pure [(x, v)] := by intros; rfl)
    (hkind : (d.params.args.all fun y => d.scope.names.lookup y.arg == some .local || d.scope.names.lookup y.arg == some .cell) = true := by rfl)
    (hco : d.scope.isCoroutine = false := by rfl) (hgen : d.scope.isGenerator = false := by rfl) (hk : d.scope.kind = .function := by rfl) : CallD G (n + 1) (.ref a) [d1] r := by
  refine CallD.def F (by rw [← List.length_map (f := fun y : Arg => y.arg), hx]; rfl) (fun pm code doc vs hl => ?_) hkind (by rw [hx]; simp) (fun env FE => ?_) hco hgen hk
  · rw [hx]
    match vs, hl with
    | [v], _ => exact hb pm code doc v
  · rw [hx]; exact h env FE
end
end Mine
end
section
open PySem PySem.W PyProof.Rows PySem.Calls
set_option maxRecDepth 100000
namespace Mine
section
variable {p : Program} {loose : List Str} {mean : ExcName → Option Value} {mg mb : Str → Option Value} {s₁ : Shared} {prog : Program} {w : World}
/-- the ground behind the top -/
def groundOf (T : Top p loose mean mg mb s₁.heap) (prog : Program) (w : World) : Gr := ⟨prog, w, s₁.heap, mg, mb, T.g, T.b, T.builtins, T.nolimit⟩
theorem fnAt_of (T : Top p loose mean mg mb s₁.heap) {d : DefRec} (j : Nat) (h : (recsOf p)[j]? = some d) : ∃ a, FnAt (groundOf T prog w) d a := by
  obtain ⟨a, o, pm, code, doc, h1, h2, h3, h4⟩ := T.fn d (List.mem_of_getElem? h)
  exact ⟨a, h1, o, pm, code, doc, h2, h3, h4⟩
theorem fnAt_law (T : Top p loose mean mg mb s₁.heap) {d : DefRec} {fa : Addr} (hmg : mg d.name = some (.ref fa)) (j : Nat) (h : (recsOf p)[j]? = some d) : FnAt (groundOf T prog w) d fa := by
  obtain ⟨a, F⟩ := fnAt_of (prog := prog) (w := w) T j h
  have : mg d.name = some (.ref a) := F.name
  rw [hmg] at this; cases this
  exact F
theorem free_of (T : Top p loose mean mg mb s₁.heap) (x : Str) (h : (startupNames.contains x || loose.contains x || ((recsOf p).map (·.name)).contains x || ((litsOf p).map (·.1)).contains x || ((clssOf p loose).map (·.name)).contains x) = false) : (groundOf T prog w).mg x = none := by
  simp only [Bool.or_eq_false_iff] at h
  have q : ∀ {l : List Str}, l.contains x = false → x ∉ l := fun hl hm => by rw [List.contains_iff_mem.mpr hm] at hl; cases hl
  exact T.free x (q h.1.1.1.1) (q h.1.1.1.2) (q h.1.1.2) (q h.1.2) (q h.2)
theorem rep_ints {ok : Addr → Prop} {h : Heap} : ∀ {vs : List Value} {ns : List Int}, IntsAre vs ns → RepAll ok h vs (ns.map .int)
  | _, _, .nil => .nil
  | _, _, .cons n t r => .cons (.int n t) (rep_ints r)
theorem law_fin {c : ClaimW} {cl : Str → Option Addr} {mean' : ExcName → Option Value} {args : List WData} {fa aL : Addr} {vs : List Value} {ns : List Int} {n : Nat} (T : Top p loose mean mg mb s₁.heap) (hL : s₁.heap.IsList aL vs.toArray) (hI : IntsAre vs ns) (hg : s₁.gens = #[])
    (law : CallD (groundOf T prog w) n (.ref fa) [.list (ns.map .int)] (.bool true)) (hn : n ≤ 90) (hr : ∀ cls, c.raises args cls = false) (hp : c.post args (.bool true) args = true) :
    wpAny (model prog w) callerA (call (.ref fa) [.ref aL]) (fun v s' => GoodWG c cl mean' args s₁ (.ok (.ret v)) s') (fun e s' => GoodWG c cl mean' args s₁ (.error e) s') s₁ := by
  have room : Room n callerA := ⟨rfl, by
    have : (callerA.depth + 90 < recursionLimit) := by decide +kernel
    omega, by
    have : (callerA.units + 30 * 90 + 500 < cLine) := by decide +kernel
    omega⟩
  refine wpAny_mono (law (fun _ => True) callerA s₁ _ [.ref aL] room (fun _ _ e => e) (fun _ _ => trivial) (.cons (.list trivial hL (rep_ints hI)) .nil)) (fun v s' q => ?_) fun _ _ x => x
  obtain ⟨st, r⟩ := q
  cases r
  have base : Heap.StaysIn s₁.heap s'.heap := st.ext.base (fun _ _ e => e)
  exact ⟨.inl ⟨_, _, _, rfl, hr, .bool true, hp, unshared_nil⟩, .of_keep base, st.os, fun x hx => st.gens.bare (fun y hy => by rw [hg] at hy; simp at hy) x hx⟩
end
end Mine
end
section
open PySem PySem.W PyProof.Rows PySem.Calls
set_option maxRecDepth 100000
namespace Mine
open Builtin.Str StrLaws
/-- the places of a sign, at most k of them -/
def pos (c : Nat) : Nat → Nat → List Nat → List Nat
  | _, _, [] => []
  | 0, _, _ => []
  | k + 1, a, x :: r => if x = c then a :: pos c k (a + 1) r else pos c (k + 1) (a + 1) r
theorem pos_zero (c a : Nat) (l : List Nat) : pos c 0 a l = [] := by cases l <;> rfl
theorem subAt_one {l : List Nat} {c i : Nat} : subAt ⟨l.toArray⟩ ⟨#[c]⟩ i = decide (l[i]? = some c) := by
  unfold subAt
  show (l.toArray.extract i (i + 1) == #[c]) = _
  rw [show (l.toArray.extract i (i + 1)) = ((l.drop i).take 1).toArray from by apply Array.toList_inj.mp; simp]
  cases e : l[i]? with
  | none =>
    have : l.drop i = [] := List.drop_eq_nil_of_le (by simpa using List.getElem?_eq_none_iff.mp e)
    rw [this]; rfl
  | some x =>
    obtain ⟨hi, hx⟩ := List.getElem?_eq_some_iff.mp e
    rw [List.drop_eq_getElem_cons hi, hx]
    simp; rfl
theorem occ_loop (l : List Nat) (c k : Nat) : ∀ (m a : Nat) (acc : Array Nat) (free : Nat), free ≤ a → a + m = l.length + 1 →
    ((forIn (List.range' a m) (acc, free) (occBody ⟨l.toArray⟩ ⟨#[c]⟩ l.length k)).run).fst.toList = acc.toList ++ pos c (k - acc.size) a (l.drop a)
  | 0, a, acc, free, h, e => by
    rw [List.drop_eq_nil_of_le (by omega)]
    simp [pos]
  | m + 1, a, acc, free, h, e => by
    rw [List.range'_succ, List.forIn_cons]
    unfold occBody
    rw [subAt_one]
    show ((if ((acc.size < k ∧ free ≤ a) ∧ a + 1 ≤ l.length) ∧ decide (l[a]? = some c) = true then (pure (ForInStep.yield (acc.push a, a + 1)) : Id (ForInStep (Array Nat × Nat))) else pure (ForInStep.yield (acc, free))) >>= _ : Id (Array Nat × Nat)).run.fst.toList = _
    by_cases hl : a < l.length
    · rw [List.drop_eq_getElem_cons hl]
      by_cases hk : acc.size < k
      · obtain ⟨j, hj⟩ : ∃ j, k - acc.size = j + 1 := ⟨k - acc.size - 1, by omega⟩
        rw [hj]
        unfold pos
        by_cases hc : l[a] = c
        · rw [if_pos ⟨⟨⟨hk, h⟩, hl⟩, by simp [hl, hc]⟩, if_pos hc]
          refine (occ_loop l c k m (a + 1) (acc.push a) (a + 1) (Nat.le_refl _) (by omega)).trans ?_
          have : k - (acc.push a).size = j := by rw [Array.size_push]; omega
          rw [this]; simp
        · rw [if_neg (fun q => hc (by have := of_decide_eq_true q.2; rw [List.getElem?_eq_getElem hl] at this; exact Option.some.inj this)), if_neg hc]
          refine (occ_loop l c k m (a + 1) acc free (by omega) (by omega)).trans ?_
          rw [hj]
      · have hj : k - acc.size = 0 := by omega
        rw [if_neg (fun q => hk q.1.1.1)]
        refine (occ_loop l c k m (a + 1) acc free (by omega) (by omega)).trans ?_
        rw [hj, pos_zero, pos_zero]
    · rw [if_neg (fun q => hl q.1.2)]
      refine (occ_loop l c k m (a + 1) acc free (by omega) (by omega)).trans ?_
      rw [List.drop_eq_nil_of_le (by omega), List.drop_eq_nil_of_le (by omega)]
      cases k - acc.size <;> rfl
theorem occ_one (l : List Nat) (c k : Nat) : occurrences ⟨l.toArray⟩ ⟨#[c]⟩ 0 l.length k = pos c k 0 l := by
  rw [occ_eq]
  have := occ_loop l c k (l.length + 1 - 0) 0 #[] 0 (Nat.le_refl _) (by omega)
  simpa using this
abbrev S (l : List Nat) : Str := ⟨l.toArray⟩
theorem S_length (l : List Nat) : (S l).length = l.length := by show l.toArray.size = _; simp
end Mine
end
section
open PySem PySem.W PyProof.Rows PySem.Calls
set_option maxRecDepth 100000
namespace Mine
theorem data_list {n : Nat} {ds : List D} (h : ∀ d ∈ ds, d.data n = true) : (D.list ds).data (n + 1) = true := by
  show D.datas n ds = true
  induction ds with
  | nil => rfl
  | cons d r ih =>
    show (D.data n d && D.datas n r) = true
    rw [h d (.head _), ih fun e q => h e (.tail _ q)]; rfl
theorem data_tuple {n : Nat} {ds : List D} (h : ∀ d ∈ ds, d.data n = true) : (D.tuple ds).data (n + 1) = true := data_list (ds := ds) h
/-- good code points -/
def Good (l : List Nat) : Prop := ∀ c ∈ l, c < 1114112
theorem Good.data {l : List Nat} (h : Good l) {n : Nat} : (D.str (S l)).data n = true := by
  have : PyData.strOk (S l) = true := by
    unfold PyData.strOk
    rw [Array.all_eq_true']
    intro c hc
    simpa using h c (by simpa using hc)
  cases n <;> exact this
end Mine
end
section
open PySem PySem.W PyProof.Rows PySem.Calls
set_option maxRecDepth 100000
namespace Mine
section
variable {G : Gr} {n : Nat} {env : Env} {σ : St} {sc : Scope}
/-- an iterator whose own objects grow -/
structure ItrD (G : Gr) (A : Around) (ok : Addr → Prop) (target : Expr) (I : Addr) (ds : List D) (C : Addr → Prop) (wg : Nat → Prop) (Sx : Nat → (Addr → Prop) → Shared → Prop) : Prop where
  core : ∀ i F s, Sx i F s → ∀ a, C a → F a
  frame : ∀ i F s s' W, Sx i F s → Mv G.base W s s' → (∀ a, F a → ¬ W a) → (∀ a, ok a → IsNode s.heap a → ¬ W a) → Sx i F s'
  node : ∀ i F s a, Sx i F s → F a → ¬ IsNode s.heap a ∧ (s.heap.get? a).isSome = true
  item : ∀ i F d s E ok', ds[i]? = some d → Sx i F s → G.base.StaysIn s.heap → (∀ a, ok a → ok' a) → (∀ a, F a → ok' a) → FreshOk ok' s.heap → wpAny G.M A (pyNext (.ref I)) (fun r s₁ => ∃ v, r = some v ∧
    wpAny G.M A (letOwnedTupleGo target (.ref I) v) (fun _ s' => Rep ok' s'.heap v d ∧ MvI G.base F wg s s' ∧ ∃ F', Sx (i + 1) F' s' ∧ ∀ a, F' a → F a ∨ s.heap.get? a = none) E s₁) E s
  done : ∀ F s E, Sx ds.length F s → G.base.StaysIn s.heap → wpAny G.M A (pyNext (.ref I)) (fun r s' => r = none ∧ MvI G.base F wg s s') E s
def EvID (G : Gr) (n : Nat) (env : Env) (σ : St) (e target : Expr) (ds : List D) : Prop := ∀ ok A s E, Room n A → G.base.StaysIn s.heap → Inv G.base ok env σ s.heap →
  wpAny G.M A (eval e env) (fun x s₁ => wpAny G.M A (pyIter x) (fun it s' => Stp G.base s s' ∧ ∃ I wg Sx C, it = .ref I ∧
    ItrD G A (fun a => okO ok σ a ∧ (s'.heap.get? a).isSome = true) target I ds C wg Sx ∧ Sx 0 C s' ∧ (∀ a, C a → s.heap.get? a = none) ∧ ∀ g, wg g → s.gens[g]? = none) E s₁) E s
theorem fresh_not_wr {base : Heap} {ok : Addr → Prop} {h : Heap} {a : Addr} (i : Inv base ok env σ h) (h0 : h.get? a = none) : ¬ Wr env σ a := by
  rintro ((w | ⟨x, w⟩) | w)
  · obtain ⟨m, o, _, _, q, _⟩ := i.frame.ns; rw [← w, h0] at q; cases q
  · obtain ⟨_, o, q, _⟩ := i.frame.cells x a w; rw [h0] at q; cases q
  · obtain ⟨vs, l⟩ := i.there a w; have := l.some; rw [h0] at this; cases this
theorem Ex1.forD {target iter : Expr} {body : List Stmt} {pos : Pos} {ds : List D} {f : D → St → St} {Q : Fl → St → Prop} (hi : EvID G n env σ iter target ds) (ht : ∀ d ∈ ds, AssD G n env target d (f d)) (J : Nat → St → Prop) (h0 : J 0 σ)
    (turn : ∀ i d σ₁, ds[i]? = some d → J i σ₁ → Ex G n env (f d σ₁) body fun fl σ₂ => match fl with
      | .next | .cont => J (i + 1) σ₂
      | .brk => Q .next σ₂
      | .ret r => Q (.ret r) σ₂)
    (done : ∀ σ₁, J ds.length σ₁ → Q .next σ₁) (hs : ∀ x, foldedSetIterable iter env x = pure x := by intro _; rfl) : Ex1 G n env σ (.For target iter body [] pos) Q := fun ok A s E r k i => by
  refine wpAny_For (wpAny_mono (hi ok A s E r k i) (fun x s₁ p₁ => wpAny_mono p₁ (fun it s₂ p₂ => ?_) fun _ _ x => x) fun _ _ x => x) hs
  obtain ⟨st, I, wg, Sx, F₀, rfl, W, hst, hF₀, hwg⟩ := p₂
  have i₂ := i.ext st.ext
  refine codeAny_forLoop_any (fun m s' => ∃ j σ₁ F, j ≤ ds.length ∧ m = ds.length + 1 - j ∧ J j σ₁ ∧ Sx j F s' ∧ Inv G.base ok env σ₁ s'.heap ∧ Mv G.base (Wr env σ) s s' ∧ G.base.StaysIn s'.heap ∧
    (∀ a ∈ owned σ₁, a ∈ owned σ ∨ s₂.heap.get? a = none) ∧ (∀ b, s'.heap.get? b = none → s₂.heap.get? b = none) ∧ (∀ a, F a → s.heap.get? a = none) ∧ (∀ a, F a → a ∉ owned σ₁) ∧ ∀ a, F a → F₀ a ∨ s₂.heap.get? a = none) ?_ (ds.length + 1)
    ⟨0, σ, F₀, Nat.zero_le _, by omega, h0, hst, i₂, st.mv, st.ext.base k, fun a w => .inl w, fun _ e => e, hF₀, fun a q w => fresh_not_wr i (hF₀ a q) (.inr w), fun a q => .inl q⟩
  rintro m s' ⟨j, σ₁, F, hj, rfl, hJ, hSx, hinv, hmv, hk, how, hdom, hF, hFo, hFs⟩
  have hfpw : ∀ a, F a → ¬ Wr env σ₁ a := fun a q w => by
    rcases w with w | w
    · exact fresh_not_wr i (hF a q) (.inl w)
    · exact hFo a q w
  have hok1 : ∀ a, (okO ok σ a ∧ (s₂.heap.get? a).isSome = true) → okO ok σ₁ a := fun a q => ⟨q.1.1, fun w => (how a w).elim q.1.2 fun z => by rw [z] at q; cases q.2⟩
  by_cases hlt : j < ds.length
  · have hd : ds[j]? = some ds[j] := List.getElem?_eq_getElem hlt
    refine wpAny_mono (W.item j F ds[j] s' _ (okO ok σ₁) hd hSx hk hok1 (fun a q => ⟨i.fresh a (hF a q), hFo a q⟩) hinv.freshO) (fun r' s₃ q => ?_) fun _ _ x => x
    obtain ⟨v, rfl, q⟩ := q
    refine wpAny_mono q (fun _ s₄ q => ?_) fun _ _ x => x
    obtain ⟨rp, mi, F', hSx', hdn⟩ := q
    have inv₄ := hinv.mvI mi hfpw (fun a w => (W.node j F s' a hSx w).1) fun b w => i.fresh b (hF b w)
    have mv₄ := MvI.after hmv mi (fun a w => hF a w) hwg
    have hk₄ := mv₄.base k i.off
    have hF'0 : ∀ a, F' a → s.heap.get? a = none := fun a q => (hdn a q).elim (hF a) fun z => hmv.dom a z
    have hF'o : ∀ a, F' a → a ∉ owned σ₁ := fun a q w => (hdn a q).elim (fun z => hFo a z w) fun z => by
      obtain ⟨vs, l⟩ := hinv.there a w; have := l.some; rw [z] at this; cases this
    have hF'w : ∀ a, F' a → ¬ Wr env σ₁ a := fun a q w => by
      rcases w with w | w
      · exact fresh_not_wr i (hF'0 a q) (.inl w)
      · exact hF'o a q w
    refine wpAny_mono (ht ds[j] (List.getElem_mem hlt) σ₁ ok A s₄ _ v r hk₄ inv₄ rp) (fun _ s₅ q => ?_) fun _ _ x => x
    obtain ⟨inv₅, mv₅, ow₅⟩ := q
    have mv₅' : Mv G.base (Wr env σ) s s₅ := mv₄.trans mv₅ fun a w => by
      rcases w with w | w
      · exact .inl (.inl w)
      · exact (how a w).imp .inr fun z => st.ext.none z
    have hk₅ := mv₅'.base k i.off
    have hSx₅ : Sx (j + 1) F' s₅ := W.frame (j + 1) F' s₄ s₅ _ hSx' mv₅ (fun a q => hF'w a q) fun a q nd w => by
      rcases w with w | w
      · exact node_not_frame inv₄.frame nd w
      · exact (hok1 a q).2 w
    refine wpAny_mono (turn j ds[j] σ₁ hd hJ ok A s₅ _ r hk₅ inv₅) (fun fl s₆ q => ?_) fun _ _ x => x
    obtain ⟨fl', σ₂, q, fi, inv₆, mv₆, hk₆, ow₆⟩ := q
    have mv₆' : Mv G.base (Wr env σ) s s₆ := mv₅'.trans mv₆ fun a w => by
      rcases w with w | w
      · exact .inl (.inl w)
      · exact (how a (ow₅ a w)).imp .inr fun z => st.ext.none z
    have dom₅ : ∀ b, s₅.heap.get? b = none → s₂.heap.get? b = none := fun b e => by
      have e4 := mv₅.dom b e
      by_cases z : F b
      · rcases hFs b z with z | z
        · have := (W.node _ _ _ b hSx' (W.core _ _ _ hSx' b z)).2; rw [e4] at this; cases this
        · exact z
      · exact hdom b (mi.dom b z e4)
    have hFs' : ∀ a, F' a → F₀ a ∨ s₂.heap.get? a = none := fun a q => (hdn a q).elim (hFs a) fun z => .inr (hdom a z)
    have how₆ : ∀ a ∈ owned σ₂, a ∈ owned σ ∨ s₂.heap.get? a = none := fun a w => by
      rcases ow₆ a w with w | w
      · exact how a (ow₅ a w)
      · exact .inr (dom₅ a w)
    have how₆' : ∀ a ∈ owned σ₂, a ∈ owned σ ∨ s.heap.get? a = none := fun a w => (how₆ a w).imp id fun z => st.ext.none z
    have hFo₆ : ∀ a, F' a → a ∉ owned σ₂ := fun a q w => by
      rcases ow₆ a w with w | w
      · exact hF'o a q (ow₅ a w)
      · have := (W.node _ _ _ a hSx₅ q).2; rw [w] at this; cases this
    have go : J (j + 1) σ₂ → ∃ m, m < ds.length + 1 - j ∧ ∃ j' σ₁ F, j' ≤ ds.length ∧ m = ds.length + 1 - j' ∧ J j' σ₁ ∧ Sx j' F s₆ ∧ Inv G.base ok env σ₁ s₆.heap ∧ Mv G.base (Wr env σ) s s₆ ∧ G.base.StaysIn s₆.heap ∧
        (∀ a ∈ owned σ₁, a ∈ owned σ ∨ s₂.heap.get? a = none) ∧ (∀ b, s₆.heap.get? b = none → s₂.heap.get? b = none) ∧ (∀ a, F a → s.heap.get? a = none) ∧ (∀ a, F a → a ∉ owned σ₁) ∧ ∀ a, F a → F₀ a ∨ s₂.heap.get? a = none := fun hq =>
      ⟨ds.length + 1 - (j + 1), by omega, j + 1, σ₂, F', hlt, rfl, hq, W.frame (j + 1) F' s₅ s₆ _ hSx₅ mv₆ (fun a q w => by
          rcases w with w | w
          · exact hF'w a q (.inl w)
          · exact hF'o a q (ow₅ a w)) (fun a q nd w => by
          rcases w with w | w
          · exact node_not_frame inv₅.frame nd w
          · exact (hok1 a q).2 (ow₅ a w)), inv₆, mv₆', hk₆, how₆, fun b e => dom₅ b (mv₆.dom b e), hF'0, hFo₆, hFs'⟩
    cases fl <;> cases fl' <;> first | exact fi.elim | skip
    · exact go q
    · exact ⟨.next, σ₂, q, trivial, inv₆, mv₆', hk₆, how₆'⟩
    · exact go q
    · exact ⟨.ret _, σ₂, q, fi, inv₆, mv₆', hk₆, how₆'⟩
  · have hjl : j = ds.length := by omega
    subst hjl
    refine wpAny_mono (W.done F s' _ hSx hk) (fun r' s₃ q => ?_) fun _ _ x => x
    obtain ⟨rfl, mi⟩ := q
    have inv₃ := hinv.mvI mi hfpw (fun a w => (W.node _ F s' a hSx w).1) fun b w => i.fresh b (hF b w)
    have mv₃ := MvI.after hmv mi (fun a w => hF a w) hwg
    exact wpAny_execs_nil ⟨.next, σ₁, done σ₁ hJ, trivial, inv₃, mv₃, mv₃.base k i.off, fun a w => (how a w).imp id fun z => st.ext.none z⟩
theorem Ex.forDJ {ι : Type} {target iter : Expr} {body rest : List Stmt} {pos : Pos} {ds : List D} {f : D → St → St} {Q : Fl → St → Prop} (S : Nat → ι → St) (J : Nat → ι → Prop) (p₀ : ι) (hJ : J 0 p₀) (h0 : Sub (S 0 p₀) σ) (nd : ∀ i p, ((S i p).map (·.1)).Nodup)
    (hi : EvID G n env (S 0 p₀) iter target ds) (ht : ∀ d ∈ ds, AssD G n env target d (f d))
    (turn : ∀ i d p, ds[i]? = some d → J i p → Ex G n env (f d (S i p)) body (TurnJ (S (i + 1)) (J (i + 1)) (fun σ₂ => Ex G n env σ₂ rest Q) Q))
    (done : ∀ p, J ds.length p → Ex G n env (S ds.length p) rest Q) (hs : ∀ x, foldedSetIterable iter env x = pure x := by intro _; rfl) : Ex G n env σ (.For target iter body [] pos :: rest) Q := by
  refine Ex.cons (Ex1.only h0 ?_ (nd _ _))
  refine Ex1.forD (f := f) hi ht (fun i σ₁ => ∃ p, J i p ∧ σ₁ = S i p) ⟨p₀, hJ, rfl⟩ (fun i d σ₁ hd hJ => ?_) (fun σ₁ hJ => ?_) hs
  · obtain ⟨p, hj, rfl⟩ := hJ
    refine (turn i d p hd hj).post fun fl σ' h => ?_
    cases fl with
    | next => obtain ⟨p', hj', hp⟩ := h; exact .inr ⟨_, hp, nd _ _, p', hj', rfl⟩
    | cont => obtain ⟨p', hj', hp⟩ := h; exact .inr ⟨_, hp, nd _ _, p', hj', rfl⟩
    | brk => exact .inl h
    | ret r => exact .inl h
  · obtain ⟨p, hj, rfl⟩ := hJ
    exact done p hj
end
end Mine
end
section
open PySem PySem.W PyProof.Rows PySem.Calls
set_option maxRecDepth 100000
namespace Mine
section
variable {G : Gr} {n : Nat} {env : Env} {σ : St} {sc : Scope}
def nodeType (T : String) : Bool := (["list", "tuple", "slice", "range"] : List String).contains T
theorem not_node {h : Heap} {a : Addr} {o : Obj} {T : String} (e : h.get? a = some o) (c : o.cls = .type T) (hT : nodeType T = false) : ¬ IsNode h a := fun nd => by
  cases nd with
  | list l => obtain ⟨o₂, e₂, c₂, _⟩ := l; rw [e] at e₂; cases e₂; rw [c] at c₂; cases c₂; cases hT
  | tup l => obtain ⟨o₂, e₂, c₂, _⟩ := l; rw [e] at e₂; cases e₂; rw [c] at c₂; cases c₂; cases hT
  | slice e₂ c₂ _ => rw [e] at e₂; cases e₂; rw [c] at c₂; cases c₂; cases hT
  | rng e₂ => unfold IsRange at e₂; rw [e] at e₂; cases e₂; cases c; cases hT
theorem node_keep {base : Heap} {W : Addr → Prop} {h h' : Heap} {b : Addr} {o : Obj} (x : ExtBut base W h h') (nd : IsNode h b) (w : ¬ W b) (e : h.get? b = some o) : h'.get? b = some o := by
  obtain ⟨o', e', _, _, k'⟩ := x b o w e
  rw [e', k' (.inr ?_)]
  cases nd with
  | list l => obtain ⟨o₂, e₂, _, k, d⟩ := l; rw [e] at e₂; cases e₂; rw [d]; rfl
  | tup l => obtain ⟨o₂, e₂, _, k, d⟩ := l; rw [e] at e₂; cases e₂; rw [d]; rfl
  | slice e₂ _ d => rw [e] at e₂; cases e₂; rw [d]; rfl
  | rng e₂ => unfold IsRange at e₂; rw [e] at e₂; cases e₂; rfl
theorem MvI.of_keepL {base : Heap} {l : List Addr} {s : Shared} {h' : Heap} {tk : Nat} (h : ∀ b o, b ∉ l → s.heap.get? b = some o → h'.get? b = some o) : MvI base (· ∈ l) (fun _ => False) s { s with heap := h', toks := tk } :=
  ⟨fun b o w e => ⟨o, h b o w e, rfl, rfl, fun _ => rfl⟩, fun b w e => (by
    cases q : s.heap.get? b with
    | none => rfl
    | some o => (have := h b o w q; rw [show h'.get? b = none from e] at this; cases this)), rfl, fun _ _ _ e => e, fun q => q⟩
theorem Itr.of_walksT {A : Around} {ok : Addr → Prop} {elts : List Expr} {k : Nat} {pos : Pos} {I : Addr} {ds ds' : List D} {vs : List Value} {fpl wrl : List Addr} {m : Nat} {Pt : Nat → Array Value → Prop} {Stt : Nat → Heap → Prop} {Mid : Nat → Addr → Heap → Prop}
    (W : WalksT G.prog G.w A I fpl wrl m Pt Stt Mid) (hm : m = ds.length)
    (hfp : ∀ b ∈ fpl, b ∈ wrl ∨ (ok b ∧ ∀ i h, Stt i h → IsNode h b)) (hobj : ∀ i h, Stt i h → ∀ b ∈ wrl, ∃ o T, h.get? b = some o ∧ o.cls = .type T ∧ isDict o.data = false ∧ nodeType T = false)
    (hP : ∀ i vals d h, ds[i]? = some d → Pt i vals → RepAll ok h vs ds' → ∃ es, d = .tuple es ∧ RepAll ok h vals.toList es) :
    Itr G A ok (.Tuple elts k pos) I ds (· ∈ wrl) (· ∈ wrl) (fun _ => False) (fun i s => Stt i s.heap ∧ RepAll ok s.heap vs ds') where
  frame := fun i s s' W' hs mv hf hn => by
    refine ⟨W.frame i s.heap s'.heap hs.1 fun b hb o e => ?_, hs.2.extBut mv.ext hn fun _ q _ => q⟩
    rcases hfp b hb with q | ⟨q1, q2⟩
    · obtain ⟨o₁, T, e₁, _, d₁, _⟩ := hobj i _ hs.1 b q
      rw [e] at e₁; cases e₁
      obtain ⟨o', e', _, _, k'⟩ := mv.ext b o (hf b q) e
      rw [e', k' (.inr d₁)]
    · have nd := q2 i _ hs.1
      exact node_keep mv.ext nd (hn b q1 nd) e
  node := fun i s a hs ha => by
    obtain ⟨o, T, e, c, _, hT⟩ := hobj i _ hs.1 a ha
    exact ⟨not_node e c hT, by rw [e]; rfl⟩
  item := fun i d s E ok' hd hs kb hok hfr => by
    have hlt : i < m := by rw [hm]; exact (List.getElem?_eq_some_iff.mp hd).1
    refine W.item i s _ E hlt hs.1 fun T vals h' tk hp hT ht hmid hk => ?_
    refine ⟨_, rfl, W.go elts k pos i T _ _ E hmid fun h'' hst hk' => ?_⟩
    have hTw := W.apart i T h' hmid
    have mi : MvI G.base (· ∈ wrl) (fun _ => False) s { s with heap := h'', toks := tk } := .of_keepL fun b o w e => hk' b o w (hk b o w e)
    have rs : RepAll ok h'' vs ds' := hs.2.extBut mi.ext (fun a q nd z => by
      obtain ⟨o, T, e, c, _, hT⟩ := hobj i _ hs.1 a z
      exact not_node e c hT nd) fun _ q _ => q
    obtain ⟨es, rfl, res⟩ := hP i vals d h'' hd hp rs
    have hTf : s.heap.get? T = none := by
      cases q : s.heap.get? T with
      | none => rfl
      | some o => exact absurd (Heap.lt_size q) (Nat.not_lt.mpr hT)
    refine ⟨.tuple (hfr T hTf) ?_ (res.weak hok), ⟨hst, rs⟩, mi⟩
    obtain ⟨o, e, c, n', dd⟩ := ht
    exact ⟨o, hk' T o hTw e, c, n', by simpa using dd⟩
  done := fun s E hs kb => W.done s _ E (hm ▸ hs.1) fun h' tk hk => ⟨rfl, .of_keepL hk⟩
  self := fun i s Q E hs hq => W.self i s Q E hs.1 hq
/-- numbered -/
def enumL (ds : List D) : List D := ds.zipIdx.map fun p => .tuple [.int (p.2 : Nat), p.1]
theorem enumL_get {ds : List D} {i : Nat} {d : D} : (enumL ds)[i]? = some d ↔ ∃ e, ds[i]? = some e ∧ d = .tuple [.int (i : Nat), e] := by
  unfold enumL
  rw [List.getElem?_map, List.getElem?_zipIdx]
  cases ds[i]? <;> simp [eq_comm]
theorem enumL_length (ds : List D) : (enumL ds).length = ds.length := by simp [enumL]
end
end Mine
end
section
open PySem PySem.W PyProof.Rows PySem.Calls
set_option maxRecDepth 100000
namespace Mine
def Sg (M : Model) (A : Around) (P : End → Shared → Prop) (c : Code) (t : Sem Fin) (fs : List PySem.Frame) (s : Shared) : Prop :=
  ∀ Γ p, Γ.code = c → Γ.Woken A → ∃ e s', Runs M Γ p t fs s e s' ∧ P e s'
section
variable {M : Model} {A : Around} {P : End → Shared → Prop} {c : Code} {fs : List PySem.Frame} {s : Shared}
theorem Sg.wrap {α : Type} {m : Sem α} {K : α → Sem Fin} {H : Value → Sem Fin} {gd : Bool → Bool} {lv : List Value → List Value} (h : wpAny M (A.over c fs) m (fun a s' => Sg M A P c (K a) fs s') (fun x s' => Sg M A P c (H x) fs s') s) :
    Sg M A P c (m.wrap K H gd lv) fs s := fun Γ p hc hw => by
  subst hc
  exact runs_wrap_of_wp K H gd lv m (h (Γ.over fs) p (hw.over fs)) (fun a p' s' q => q Γ p' rfl hw) fun x p' s' q => q Γ p' rfl hw
theorem Sg.stand {q : Pos} {k : Unit → Sem Fin} (h : Sg M A P c (k ()) fs s) : Sg M A P c (.at q k) fs s := .wrap (m := standAt q) (H := .raise) (gd := id) (lv := id) (wpAny_standAt h)
theorem Sg.mark {l : List Value} {k : Unit → Sem Fin} (h : Sg M A P c (k ()) fs s) : Sg M A P c (.point l k) fs s := .wrap (m := point) (H := .raise) (gd := id) (lv := fun _ => l) (wpAny_point h)
theorem Sg.enter {c' : Code} {h : Option Value} {g : Bool} {l : List Value} {k : Result → Sem Fin} (q : ∀ p, Sg M A P c' (M.den c') (.ret k h g l c p [] :: fs) s) : Sg M A P c (.call c' h g l k) fs s := fun Γ p hc hw => by
  subst hc
  obtain ⟨e, s', hr, he⟩ := q p (Γ.goto c') p rfl (hw.goto c')
  exact ⟨e, s', runs_call_seg hr, he⟩
theorem Sg.back {k : Result → Sem Fin} {h : Option Value} {g : Bool} {l : List Value} {c₁ : Code} {p₁ : Pos} {kp : List Value} (r : Result) (q : Sg M A P c₁ (k r) fs s) : Sg M A P c (leafOf r) (.ret k h g l c₁ p₁ kp :: fs) s := fun Γ p hc hw => by
  subst hc
  obtain ⟨e, s', hr, he⟩ := q (Γ.goto c₁) p₁ rfl (hw.goto c₁)
  exact ⟨e, s', Runs.pop r hr, he⟩
theorem Sg.again {c' : Code} (hq : c'.quiet = true) (q : Sg M A P c' (M.den c') fs s) : Sg M A P c (.pure (.again c')) fs s := fun Γ p hc hw => by
  subst hc
  obtain ⟨e, s', hr, he⟩ := q (Γ.goto c') p rfl (hw.goto c')
  exact ⟨e, s', Runs.head (c₁ := c') (fun _ _ x => .again hq x) hr, he⟩
theorem Sg.fin (r : Result) (h : P (.ret r) s) : Sg M A P c (leafOf r) [] s := fun Γ p hc _ => ⟨_, s, Runs.leaf r, h⟩
theorem Sg.out {v : Value} {g : Bool} {l : List Value} {k : Resume → Sem Fin} (hfs : splitAtGen fs = none) (h : ∀ p, P (.susp v g l k c p fs) s) : Sg M A P c (.yield v g l k) fs s := fun Γ p hc _ => by
  subst hc
  exact ⟨_, s, Runs.yield' fs hfs, h p⟩
/-- a generator's state goes on -/
def Goes1 (M : Model) (A : Around) (P : End → Shared → Prop) (gs : GenState) (s : Shared) : Prop := match gs with
  | .fresh c => Sg M A P c (M.den c) [] s
  | .suspended k _ c _ fs _ => Sg M A P c (k (.send .none)) fs s
  | _ => False
theorem wake1 {E : Value → Shared → Prop} {g : Nat} {gs : GenState} {l : List Value} {α : Type} {k : GenResult → Sem α} {Q : α → Shared → Prop} (hg : s.gens[g]? = some gs) (hgo : Goes1 M A P gs (s.setGen g .running)) (hq : ∀ e s', P e s' → e.quiet = true)
    (h : ∀ e s₁, P e s₁ → wpAny M A (k e.result) Q E (s₁.setGen g e.genState)) : wpAny M A (.resume g (.send .none) l k) Q E s := fun Γ p hΓ => by
  rw [Sem.wp_resume]
  cases gs with
  | fresh c =>
    obtain ⟨e, s₁, hr, he⟩ := hgo (Γ.wake c p) p rfl (hΓ.wake c p)
    refine ⟨e.result, s₁.setGen g e.genState, ?_, h e s₁ he Γ p hΓ⟩
    unfold Wakes; rw [hg]; exact ⟨e, s₁, hr, hq e s₁ he, rfl, rfl⟩
  | suspended k₀ l₀ c₀ p₀ fs₀ cl =>
    obtain ⟨e, s₁, hr, he⟩ := hgo (Γ.wake c₀ p) p₀ rfl (hΓ.wake c₀ p)
    refine ⟨e.result, s₁.setGen g e.genState, ?_, h e s₁ he Γ p hΓ⟩
    unfold Wakes; rw [hg]; exact ⟨e, s₁, hr, hq e s₁ he, rfl, rfl⟩
  | running => exact hgo.elim
  | finished => exact hgo.elim
end
section
variable {prog : Program} {w : World} {A : Around} {E : Value → Shared → Prop} {s : Shared} {P : End → Shared → Prop}
/-- next of a generator: a value, or its end -/
theorem next_gen {a : Addr} {g : Nat} {gs : GenState} {Q : Option Value → Shared → Prop} (hh : A.handled = none) (hl : s.heap.NoLimit) (hroom : A.depth < recursionLimit) (hg : s.heap.IsGen a g) (hgs : s.gens[g]? = some gs)
    (hgo : Goes1 (model prog w) A.in1 P gs (s.setGen g .running)) (hq : ∀ e s', P e s' → e.quiet = true)
    (hP : ∀ e s₁, P e s₁ → (∃ v gd l k c p fs, e = .susp v gd l k c p fs ∧ Q (some v) (s₁.setGen g e.genState)) ∨
      (e = .ret (.ok (.ret .none)) ∧ ∀ h', (∀ b o, s₁.heap.get? b = some o → h'.get? b = some o) → Q none { s₁.setGen g .finished with heap := h' })) :
    wpAny (model prog w) A (pyNext (.ref a)) Q E s := by
  unfold pyNext
  refine wpAny_bind (wpAny_attempt (wpAny_callSpecial?_slot (name := Str.ofString "__next__") hg.typeIs slot_gen_next (wpAny_call_entry slot_gen_next hg.typeIs entry_gen_next ?_ (args_gen_next _))))
  show wpAny _ A.in1 (Builtin.Generator.genWake (.ref a) (.send .none)) _ _ s
  unfold Builtin.Generator.genWake
  refine wpAny_bind (wpAny_holding (wpAny_genNumber hg (wpAny_bind (wpAny_genState hgs ?_))))
  cases gs with
  | running => exact hgo.elim
  | finished => exact hgo.elim
  | _ =>
    refine wpAny_bind (wpAny_roomToWake hl hroom ?_)
    show wpAny _ A.in1 (.resume g (.send .none) [] _) _ _ s
    refine wake1 hgs hgo hq fun e s₁ he => ?_
    rcases hP e s₁ he with ⟨v, gd, l, k, c, p, fs, rfl, hv⟩ | ⟨rfl, hn⟩
    · exact wpAny_pure ⟨v, rfl, wpAny_pure hv⟩
    · show wpAny _ A.in1 (newExc (.type "StopIteration") [] >>= _) _ _ _
      refine wpAny_bind ?_
      simp only [newExc, newTuple]
      refine wpAny_bind (wpAny_newObj_type ?_ (by size_fits))
      refine wpAny_bind (m := firstArgMember _ _) (wpAny_of_eq (a := Value.none) (by first | rfl | (simp only [firstArgMember]; rfl)) ?_)
      refine wpAny_newObj_type ?_ (by size_fits)
      simp only [raiseNew]
      refine wpAny_bind (wpAny_bind (wpAny_handled ?_))
      rw [show A.in1.handled = none from hh]
      refine wpAny_throw ?_
      refine wpAny_bind (wpAny_isInstance (T := "StopIteration") (b := true) ⟨_, Heap.get?_push_size _ rfl, rfl⟩ isSubtype_stop ?_)
      exact wpAny_pure (hn _ fun b o hb => Heap.get?_push_of_some _ (Heap.get?_push_of_some _ hb))
end
end Mine
end
section
open PySem PySem.W PyProof.Rows PySem.Calls
set_option maxRecDepth 100000
namespace Mine
/-- what others may do while a generator sleeps -/
def Cpt (base : Heap) (okc F : Addr → Prop) (h h₁ : Heap) : Prop := ∃ W : Addr → Prop, ExtBut base W h h₁ ∧ (∀ b, h₁.get? b = none → h.get? b = none) ∧ (∀ a, F a → ¬ W a) ∧ ∀ a, okc a → IsNode h a → ¬ W a
/-- a generator's stop: a value, or the end -/
def GStop (G : Gr) (okc C : Addr → Prop) (g : Nat) (s₁ : Shared) (F : Addr → Prop) (d : Option D) (go : GenState → (Addr → Prop) → Shared → Prop) (e : End) (s' : Shared) : Prop :=
  MvI G.base F (· = g) (s₁.setGen g .running) s' ∧ (s'.gens[g]?).isSome = true ∧ e.quiet = true ∧ match d with
    | none => e = .ret (.ok (.ret .none))
    | some d => (∃ v gd l k c p fs, e = .susp v gd l k c p fs ∧ Rep (fun b => okc b ∨ s₁.heap.get? b = none ∨ F b) s'.heap v d) ∧
      ∃ F', (∀ a, C a → F' a) ∧ (∀ a, F' a → F a ∨ s₁.heap.get? a = none) ∧ (∀ a, F' a → ¬ IsNode s'.heap a ∧ (s'.heap.get? a).isSome = true) ∧ go e.genState F' s'
def GenGo (G : Gr) (A : Around) (okc C : Addr → Prop) (g : Nat) : List D → GenState → (Addr → Prop) → Shared → Prop
  | [], gs, F, s => ∀ s₁, Cpt G.base okc F s.heap s₁.heap → G.base.StaysIn s₁.heap → (s₁.gens[g]?).isSome = true → Goes1 G.M A (GStop G okc C g s₁ F none fun _ _ _ => False) gs (s₁.setGen g .running)
  | d :: r, gs, F, s => ∀ s₁, Cpt G.base okc F s.heap s₁.heap → G.base.StaysIn s₁.heap → (s₁.gens[g]?).isSome = true → Goes1 G.M A (GStop G okc C g s₁ F (some d) (GenGo G A okc C g r)) gs (s₁.setGen g .running)
def GPost (G : Gr) (A : Around) (okc C : Addr → Prop) (g : Nat) (ds : List D) (s₁ : Shared) (F : Addr → Prop) : End → Shared → Prop := match ds with
  | [] => GStop G okc C g s₁ F none fun _ _ _ => False
  | d :: r => GStop G okc C g s₁ F (some d) (GenGo G A okc C g r)
theorem genGo_iff {G : Gr} {A : Around} {okc C : Addr → Prop} {g : Nat} {ds : List D} {gs : GenState} {F : Addr → Prop} {s : Shared} :
    GenGo G A okc C g ds gs F s ↔ ∀ s₁, Cpt G.base okc F s.heap s₁.heap → G.base.StaysIn s₁.heap → (s₁.gens[g]?).isSome = true → Goes1 G.M A (GPost G A okc C g ds s₁ F) gs (s₁.setGen g .running) := by
  cases ds <;> exact Iff.rfl
theorem node_fwd {base : Heap} {W : Addr → Prop} {h h' : Heap} {a : Addr} (x : ExtBut base W h h') (w : ¬ W a) (nd : IsNode h a) : IsNode h' a := by
  cases nd with
  | list l => obtain ⟨o, e, r⟩ := l; exact .list ⟨o, node_keep x (.list ⟨o, e, r⟩) w e, r⟩
  | tup l => obtain ⟨o, e, r⟩ := l; exact .tup ⟨o, node_keep x (.tup ⟨o, e, r⟩) w e, r⟩
  | slice e c d => exact .slice (node_keep x (.slice e c d) w e) c d
  | rng e => exact .rng (node_keep x (.rng e) w e)
theorem node_back {base : Heap} {W : Addr → Prop} {h h' : Heap} {a : Addr} (x : ExtBut base W h h') (w : ¬ W a) (hs : (h.get? a).isSome = true) (nd : IsNode h' a) : IsNode h a := by
  obtain ⟨o, e⟩ := Option.isSome_iff_exists.mp hs
  obtain ⟨o', e', c', d', k'⟩ := x a o w e
  cases nd with
  | list l => obtain ⟨o₂, e₂, c₂, n, d₂⟩ := l; rw [e'] at e₂; cases e₂; exact .list ⟨o, e, c'.symm.trans c₂, n, d'.symm.trans d₂⟩
  | tup l => obtain ⟨o₂, e₂, c₂, n, d₂⟩ := l; rw [e'] at e₂; cases e₂; exact .tup ⟨o, e, c'.symm.trans c₂, n, d'.symm.trans d₂⟩
  | slice e₂ c₂ d₂ => rw [e'] at e₂; cases e₂; exact .slice e (c'.symm.trans c₂) (d'.symm.trans d₂)
  | rng e₂ =>
    unfold IsRange at e₂
    rw [e'] at e₂; cases e₂
    have := k' (.inr (by rw [← d']; rfl))
    exact .rng (by unfold IsRange; rw [e, ← this])
theorem ExtBut.weak {base : Heap} {W W' : Addr → Prop} {h h' : Heap} (x : ExtBut base W h h') (k : ∀ a, W a → W' a) : ExtBut base W' h h' := fun b o w e => x b o (fun q => w (k b q)) e
theorem ExtBut.trans {base : Heap} {W : Addr → Prop} {h h' h'' : Heap} (x : ExtBut base W h h') (y : ExtBut base W h' h'') : ExtBut base W h h'' := fun b o w e => by
  obtain ⟨o', e', c', d', k'⟩ := x b o w e
  obtain ⟨o'', e'', c'', d'', k''⟩ := y b o' w e'
  refine ⟨o'', e'', c''.trans c', d''.trans d', fun q => ?_⟩
  have := k' q; subst this
  exact k'' q
theorem Cpt.refl {base : Heap} {okc F : Addr → Prop} {h : Heap} : Cpt base okc F h h := ⟨fun _ => False, fun b o _ e => ⟨o, e, rfl, rfl, fun _ => rfl⟩, fun _ e => e, fun _ _ h => h, fun _ _ _ h => h⟩
theorem Cpt.trans {base : Heap} {okc F : Addr → Prop} {a b c : Heap} (x : Cpt base okc F a b) (y : Cpt base okc F b c) : Cpt base okc F a c := by
  obtain ⟨W, m, q, h1, h2⟩ := x
  obtain ⟨W', m', q', h1', h2'⟩ := y
  refine ⟨fun p => W p ∨ W' p, (m.weak fun p h => .inl h).trans (m'.weak fun p h => .inr h), fun p e => q p (q' p e), fun p hp h => h.elim (h1 p hp) (h1' p hp), fun p hp nd h => ?_⟩
  rcases h with h | h
  · exact h2 p hp nd h
  · exact h2' p hp (node_fwd m (h2 p hp nd) nd) h
theorem GenGo.cpt {G : Gr} {A : Around} {okc C : Addr → Prop} {g : Nat} {ds : List D} {gs : GenState} {F : Addr → Prop} {s s' : Shared} (h : GenGo G A okc C g ds gs F s) (x : Cpt G.base okc F s.heap s'.heap) : GenGo G A okc C g ds gs F s' :=
  genGo_iff.mpr fun s₁ y => genGo_iff.mp h s₁ (x.trans y)
theorem setGen_get {s : Shared} {g : Nat} {x : GenState} (h : (s.gens[g]?).isSome = true) : (s.setGen g x).gens[g]? = some x := by
  obtain ⟨y, e⟩ := Option.isSome_iff_exists.mp h
  obtain ⟨hi, _⟩ := Array.getElem?_eq_some_iff.mp e
  show (s.gens.setIfInBounds g x)[g]? = _
  simp [hi]
theorem setGen_ne {s : Shared} {g i : Nat} {x : GenState} (h : i ≠ g) : (s.setGen g x).gens[i]? = s.gens[i]? := by
  show (s.gens.setIfInBounds g x)[i]? = _
  rw [Array.getElem?_setIfInBounds_ne (Ne.symm h)]
theorem setGen_bare {s : Shared} {g : Nat} {x : GenState} (h : ∀ y ∈ s.gens, y.bare = true) (hx : x.bare = true) : ∀ y ∈ (s.setGen g x).gens, y.bare = true := fun y hy => by
  obtain ⟨i, hi, rfl⟩ := Array.mem_iff_getElem.mp hy
  by_cases e : i = g
  · subst e
    have hi' : i < s.gens.size := by simpa [Shared.setGen] using hi
    have : (s.gens.setIfInBounds i x)[i]? = some x := by simp [hi']
    have h2 := Array.getElem?_eq_getElem (xs := (s.setGen i x).gens) hi
    have h3 : (s.setGen i x).gens[i]? = some x := this
    rw [h3] at h2; rw [← Option.some.inj h2]; exact hx
  · have h2 := Array.getElem?_eq_getElem (xs := (s.setGen g x).gens) hi
    rw [setGen_ne e] at h2
    exact h _ (Array.mem_of_getElem? h2)
theorem bare_of_quiet {e : End} (h : e.quiet = true) : e.genState.bare = true := End.bare_of_quiet h
section
variable {G : Gr} {n : Nat} {env : Env} {σ : St} {sc : Scope}
/-- the state of a generator that is gone through -/
def GenSx (G : Gr) (A : Around) (okc C : Addr → Prop) (I : Addr) (g : Nat) (ds : List D) (i : Nat) (FI : Addr → Prop) (s : Shared) : Prop :=
  ∃ F : Addr → Prop, FI = (fun a => F a ∨ a = I) ∧ (∀ a, C a → F a) ∧ ¬ F I ∧ s.heap.IsGen I g ∧ (∀ a, F a → ¬ IsNode s.heap a ∧ (s.heap.get? a).isSome = true) ∧ ∃ gs, s.gens[g]? = some gs ∧ GenGo G A okc C g (ds.drop i) gs F s
theorem isGen_node {h : Heap} {I : Addr} {g : Nat} (q : h.IsGen I g) : ¬ IsNode h I ∧ (h.get? I).isSome = true := by
  obtain ⟨o, nm, qn, e, c, d, sl⟩ := q
  exact ⟨not_node e c rfl, by rw [e]; rfl⟩
theorem isGen_mv {base : Heap} {W : Addr → Prop} {h h' : Heap} {I : Addr} {g : Nat} (x : ExtBut base W h h') (w : ¬ W I) (q : h.IsGen I g) : h'.IsGen I g := by
  obtain ⟨o, nm, qn, e, c, d, sl⟩ := q
  obtain ⟨o', e', c', d', k'⟩ := x I o w e
  have : o' = o := k' (.inr (by rw [d]; rfl))
  subst this
  exact ⟨o', nm, qn, e', c, d, sl⟩
theorem MvI.unset {base : Heap} {F : Addr → Prop} {g : Nat} {s s₁ : Shared} {x : GenState} (m : MvI base F (· = g) (s.setGen g .running) s₁) (hx : x.bare = true) : MvI base F (· = g) s (s₁.setGen g x) :=
  ⟨m.ext, m.dom, m.os, fun i y hi e => by rw [setGen_ne hi]; exact m.gkeep i y hi (by rw [setGen_ne hi]; exact e), fun q => setGen_bare (m.gbare (setGen_bare q rfl)) hx⟩
theorem MvI.weak {base : Heap} {F F' : Addr → Prop} {wg : Nat → Prop} {s s' : Shared} (m : MvI base F wg s s') (h : ∀ a, F a → F' a) : MvI base F' wg s s' := ⟨m.ext.weak h, fun b w e => m.dom b (fun q => w (h b q)) e, m.os, m.gkeep, m.gbare⟩
theorem MvI.heap {base : Heap} {F : Addr → Prop} {wg : Nat → Prop} {s s' : Shared} {h' : Heap} (m : MvI base F wg s s') (k : ∀ b o, s'.heap.get? b = some o → h'.get? b = some o) : MvI base F wg s { s' with heap := h' } :=
  ⟨fun b o w e => by
    obtain ⟨o', e', r⟩ := m.ext b o w e
    exact ⟨o', k b o' e', r⟩, fun b w e => m.dom b w (by
    cases q : s'.heap.get? b with
    | none => rfl
    | some o => have := k b o q; rw [show h'.get? b = none from e] at this; cases this), m.os, m.gkeep, m.gbare⟩
theorem ItrD.gen {A : Around} {okc C : Addr → Prop} {target : Expr} {I : Addr} {g : Nat} {ds : List D} (hh : A.handled = none) (hroom : A.depth < recursionLimit) : ItrD G A okc target I ds (fun a => C a ∨ a = I) (· = g) (GenSx G A.in1 okc C I g ds) where
  core := fun i FI s hs a ha => by
    obtain ⟨F, rfl, hC, _⟩ := hs
    exact ha.imp (hC a) id
  frame := fun i FI s s' W hs mv hf hn => by
    obtain ⟨F, rfl, hC, h0, h1, h3, gs, h4, h5⟩ := hs
    refine ⟨F, rfl, hC, h0, isGen_mv mv.ext (hf I (.inr rfl)) h1, fun a ha => ⟨fun nd => (h3 a ha).1 (node_back mv.ext (hf a (.inl ha)) (h3 a ha).2 nd), ?_⟩, gs, mv.gens.keep g gs h4, h5.cpt ⟨W, mv.ext, mv.dom, fun a ha => hf a (.inl ha), hn⟩⟩
    cases q : s'.heap.get? a with
    | some _ => rfl
    | none => have := (h3 a ha).2; rw [mv.dom a q] at this; cases this
  node := fun i FI s a hs ha => by
    obtain ⟨F, rfl, hC, h0, h1, h3, _⟩ := hs
    rcases ha with ha | rfl
    · exact h3 a ha
    · exact isGen_node h1
  item := fun i FI d s E ok' hd hs kb hok hFok hfr => by
    obtain ⟨F, rfl, hC, h0, h1, h3, gs, h4, h5⟩ := hs
    have hdrop : ds.drop i = d :: ds.drop (i + 1) := by
      obtain ⟨hi, rfl⟩ := List.getElem?_eq_some_iff.mp hd
      exact List.drop_eq_getElem_cons hi
    rw [hdrop] at h5
    refine next_gen hh (G.nolimit.keeps kb) hroom h1 h4 (h5 s .refl kb (by rw [h4]; rfl)) (fun e s' q => q.2.2.1) fun e s₁ q => .inl ?_
    obtain ⟨mi, gin, hq, ⟨v, gd, l, k, c, p, fs, rfl, rp⟩, F', f1, f2, f3, go⟩ := q
    have mu := mi.unset (x := (End.susp v gd l k c p fs).genState) (bare_of_quiet hq)
    have hgen : (s₁.setGen g (End.susp v gd l k c p fs).genState).heap.IsGen I g := isGen_mv mi.ext h0 h1
    have hF'I : ¬ F' I := fun z => (f2 I z).elim h0 fun z => by have := (isGen_node h1).2; rw [z] at this; cases this
    refine ⟨v, gd, l, k, c, p, fs, rfl, v, rfl, ?_⟩
    obtain ⟨o, nm, qn, e, c', d', sl⟩ := id hgen
    refine letOwned_plain (o := o) e c' (by decide) ⟨?_, mu.weak fun a => .inl, fun a => F' a ∨ a = I, ⟨F', rfl, f1, hF'I, hgen, f3, _, setGen_get gin, go.cpt .refl⟩, fun a ha => ?_⟩
    · exact rp.weak fun b q => q.elim (hok b) fun z => z.elim (fun z => hfr b z) fun z => hFok b (.inl z)
    · rcases ha with ha | ha
      · exact (f2 a ha).imp .inl id
      · exact .inl (.inr ha)
  done := fun FI s E hs kb => by
    obtain ⟨F, rfl, hC, h0, h1, h3, gs, h4, h5⟩ := hs
    rw [List.drop_length] at h5
    refine next_gen hh (G.nolimit.keeps kb) hroom h1 h4 (h5 s .refl kb (by rw [h4]; rfl)) (fun e s' q => q.2.2.1) fun e s₁ q => .inr ?_
    obtain ⟨mi, gin, hq, rfl⟩ := q
    refine ⟨rfl, fun h' hk => ⟨rfl, ?_⟩⟩
    exact ((mi.unset (x := .finished) rfl).weak fun a => .inl).heap hk
end
end Mine
end
section
open PySem PySem.W PyProof.Rows PySem.Calls
set_option maxRecDepth 100000
namespace Mine
section
variable {G : Gr} {n : Nat} {env : Env} {σ : St} {sc : Scope} {A : Around} {okc : Addr → Prop} {g : Nat} {c : Code} {fs : List PySem.Frame} {FR : Addr → Prop} {Res : Heap → Prop} {ds : List D}
  {K : Flow → Sem Fin} {H : Value → Sem Fin} {gd : Bool → Bool} {lv : List Value → List Value}
def Stable (G : Gr) (okc FR : Addr → Prop) (Res : Heap → Prop) : Prop := ∀ h h' W, Res h → ExtBut G.base W h h' → (∀ a, FR a → ¬ W a) → (∀ a, okc a → IsNode h a → ¬ W a) → Res h'
/-- a generator's frame at work -/
structure Run (G : Gr) (okc : Addr → Prop) (g : Nat) (env : Env) (FR : Addr → Prop) (Res : Heap → Prop) (s₁ : Shared) (F₁ F : Addr → Prop) (σ : St) (s : Shared) : Prop where
  start : G.base.StaysIn s₁.heap
  base : G.base.StaysIn s.heap
  inv : Inv G.base (fun b => okc b ∨ s₁.heap.get? b = none ∨ F₁ b) env σ s.heap
  mv : MvI G.base F₁ (· = g) (s₁.setGen g .running) s
  up : ∀ a, FrW env a → F a
  dn : ∀ a, F a → F₁ a ∨ s₁.heap.get? a = none
  fr : ∀ a, FrW env a → F₁ a
  off : ∀ a, F₁ a → G.base.get? a = none
  nd : ∀ a, F a → ¬ IsNode s.heap a ∧ (s.heap.get? a).isSome = true
  sub : ∀ a, FR a → F a ∧ ¬ FrW env a
  res : Res s.heap
  own : owned σ = []
  gin : (s.gens[g]?).isSome = true
def Gs (G : Gr) (A : Around) (okc : Addr → Prop) (g : Nat) (env : Env) (c : Code) (fs : List PySem.Frame) (FR : Addr → Prop) (Res : Heap → Prop) (σ : St) (t : Sem Fin) (ds : List D) : Prop :=
  ∀ s₁ F₁ F s, Run G okc g env FR Res s₁ F₁ F σ s → Sg G.M A (GPost G A okc (FrW env) g ds s₁ F₁) c t fs s
theorem MvI.thenMv {base : Heap} {F W : Addr → Prop} {wg : Nat → Prop} {s s₁ s₂ : Shared} (i : MvI base F wg s s₁) (m : Mv base W s₁ s₂) (h : ∀ a, W a → F a ∨ s.heap.get? a = none) : MvI base F wg s s₂ := by
  refine ⟨fun b o w e => ?_, fun b w e => i.dom b w (m.dom b e), m.os.trans i.os, fun j x hj e => m.gens.keep j x (i.gkeep j x hj e), fun q => m.gens.bare (i.gbare q)⟩
  obtain ⟨o', e', c', d', k'⟩ := i.ext b o w e
  obtain ⟨o'', e'', c'', d'', k''⟩ := m.ext b o' (fun z => (h b z).elim w fun z => by rw [z] at e; cases e) e'
  refine ⟨o'', e'', c''.trans c', d''.trans d', fun q => ?_⟩
  have := k' q; subst this
  exact k'' q
/-- a step of the frame's own -/
theorem Run.step {s₁ s s' : Shared} {F₁ F : Addr → Prop} {σ' : St} (r : Run G okc g env FR Res s₁ F₁ F σ s) (st : Stable G okc FR Res) (i : Inv G.base (fun b => okc b ∨ s₁.heap.get? b = none ∨ F₁ b) env σ' s'.heap) (m : Mv G.base (Wr env σ) s s') (k : G.base.StaysIn s'.heap) (o : owned σ' = []) :
    Run G okc g env FR Res s₁ F₁ F σ' s' := by
  have hw : ∀ a, Wr env σ a → FrW env a := fun a w => by
    rcases w with w | w
    · exact w
    · rw [r.own] at w; cases w
  refine ⟨r.start, k, i, r.mv.thenMv m fun a w => .inl (r.fr a (hw a w)), r.up, r.dn, r.fr, r.off, fun a ha => ?_, r.sub, ?_, o, ?_⟩
  · have hs : (s'.heap.get? a).isSome = true := by
      cases q : s'.heap.get? a with
      | some _ => rfl
      | none => have := (r.nd a ha).2; rw [m.dom a q] at this; cases this
    refine ⟨fun nd => ?_, hs⟩
    by_cases hf : FrW env a
    · exact node_not_frame i.frame nd hf
    · exact (r.nd a ha).1 (node_back m.ext (fun w => hf (hw a w)) (r.nd a ha).2 nd)
  · exact st s.heap s'.heap _ r.res m.ext (fun a ha w => (r.sub a ha).2 (hw a w)) fun a _ nd w => node_not_frame r.inv.frame nd (hw a w)
  · obtain ⟨x, hx⟩ := Option.isSome_iff_exists.mp r.gin
    rw [m.gens.keep g x hx]; rfl
theorem Run.stp {s₁ s s' : Shared} {F₁ F : Addr → Prop} (r : Run G okc g env FR Res s₁ F₁ F σ s) (st : Stable G okc FR Res) (x : Stp G.base s s') : Run G okc g env FR Res s₁ F₁ F σ s' :=
  r.step st (r.inv.ext x.ext) x.mv (x.ext.base r.base) r.own
theorem Gs.nil (h : Gs G A okc g env c fs FR Res σ (K .next) ds) : Gs G A okc g env c fs FR Res σ ((execs [] env).wrap K H gd lv) ds := h
theorem Gs.cons {st : Stmt} {rest : List Stmt} (h : Gs G A okc g env c fs FR Res σ ((exec st env).wrap (fun f => match f with | .next => (execs rest env).wrap K H gd lv | f => K f) H gd lv) ds) :
    Gs G A okc g env c fs FR Res σ ((execs (st :: rest) env).wrap K H gd lv) ds := by
  rw [execs_cons_wrap]; exact h
theorem Gs.stmt {st : Stmt} (hr : Room n (A.over c fs)) (hst : Stable G okc FR Res) (h : Ex1 G n env σ st fun fl σ' => fl = .next ∧ owned σ' = [] ∧ Gs G A okc g env c fs FR Res σ' (K .next) ds) : Gs G A okc g env c fs FR Res σ ((exec st env).wrap K H gd lv) ds := fun s₁ F₁ F s r =>
  .wrap (wpAny_mono (h _ _ s _ hr r.base r.inv) (fun f s' a => by
    obtain ⟨fl, σ', ⟨rfl, o, q⟩, fi, i, m, k, _⟩ := a
    cases f <;> first | exact fi.elim | skip
    exact q s₁ F₁ F s' (r.step hst i m k o)) fun _ _ x => x)
theorem Gs.assign {x : Str} {e : Expr} {p pos : Pos} {d : D} (hr : Room n (A.over c fs)) (hst : Stable G okc FR Res) (h : Ev G n env σ e d) (hx : Storable env x) (ho : owned σ = []) (q : Gs G A okc g env c fs FR Res (setS x (.val d) σ) (K .next) ds) (hs : swapsWith e (some (.Name x p)) pos.line env = pure false := by rfl) :
    Gs G A okc g env c fs FR Res σ ((exec (.Assign [.Name x p] e pos) env).wrap K H gd lv) ds :=
  .stmt hr hst ((Ex1.assign h hx hs).mono fun fl σ' z => by obtain ⟨rfl, rfl⟩ := z; exact ⟨rfl, owned_setS_nil ho, q⟩)
theorem Gs.ite {t : Expr} {a b : List Stmt} {pos : Pos} {x : Bool} (hr : Room n (A.over c fs)) (hst : Stable G okc FR Res) (h : Tr G n env σ t x) (ha : x = true → Gs G A okc g env c fs FR Res σ ((execs a env).wrap K H gd lv) ds) (hb : x = false → Gs G A okc g env c fs FR Res σ ((execs b env).wrap K H gd lv) ds) :
    Gs G A okc g env c fs FR Res σ ((exec (.If t a b pos) env).wrap K H gd lv) ds := fun s₁ F₁ F s r => by
  rw [exec_If]
  show Sg _ _ _ _ (.at pos fun _ => ((isTrue t env (eval t env)) >>= fun y => if y = true then execs a env else execs b env).wrap K H gd lv) _ _
  refine .stand ?_
  rw [Sem.bind_eq_wrap', Sem.wrap_wrap]
  refine .wrap (wpAny_mono (h _ _ s _ hr r.base r.inv) (fun y s' q => ?_) fun _ _ x => x)
  obtain ⟨st, rfl⟩ := q
  have r' := r.stp hst st
  cases y with
  | true => exact ha rfl s₁ F₁ F s' r'
  | false => exact hb rfl s₁ F₁ F s' r'
/-- all that the frame knows is of one piece -/
def Plain : St → Bool
  | [] => true
  | (_, .val d) :: r => Atomic d && Plain r
  | (_, .own _ _) :: _ => false
theorem Plain.get {x : Str} {d : D} : ∀ {σ : St}, Plain σ = true → σ.lookup x = some (.val d) → Atomic d = true
  | (y, .val e) :: r, h, l => by
    rw [Plain, Bool.and_eq_true] at h
    rw [List.lookup_cons] at l
    cases q : x == y with
    | true => rw [q] at l; cases l; exact h.1
    | false => rw [q] at l; exact Plain.get h.2 l
theorem Plain.noOwn {x : Str} {a : Addr} {es : List D} : ∀ {σ : St}, Plain σ = true → σ.lookup x ≠ some (.own a es)
  | [], _ => nofun
  | (y, .val e) :: r, h => by
    rw [Plain, Bool.and_eq_true] at h
    rw [List.lookup_cons]
    cases x == y with
    | true => exact nofun
    | false => exact Plain.noOwn h.2
theorem Plain.owned : ∀ {σ : St}, Plain σ = true → Mine.owned σ = []
  | [], _ => rfl
  | (y, .val e) :: r, h => by rw [Plain, Bool.and_eq_true] at h; exact Plain.owned (σ := r) h.2
theorem Gs.yield {e : Expr} {yp pos : Pos} {d : D} {σ' : St} (hr : Room n (A.over c fs)) (hst : Stable G okc FR Res) (hfs : splitAtGen fs = none) (hgd : gd false = false) (hfg : fs.any Frame.guarded = false) (h : Ev G n env σ e d) (hsub : Sub σ' σ) (hp : Plain σ' = true)
    (hco : env.scope.isCoroutine = false) (q : Gs G A okc g env c fs FR Res σ' (K .next) ds) :
    Gs G A okc g env c fs FR Res σ ((exec (.Expr (.Yield (some e) yp) pos) env).wrap K H gd lv) (d :: ds) := fun s₁ F₁ F s r => by
  rw [exec_Expr env (.Yield (some e) yp) pos (by unfold interactive; rw [r.inv.frame.kind]; rfl) rfl]
  show Sg _ _ _ _ (.at pos fun _ => ((eval e env >>= fun v => (standAt yp >>= fun _ => yieldOut env v)) >>= fun x => dropValue (.Yield (some e) yp) pos x).wrap K H gd lv) _ _
  have hy : ∀ v, yieldOut env v = yieldValue v := fun v => by simp only [yieldOut, hco, Bool.false_eq_true, if_false]
  simp only [hy]
  refine .stand ?_
  rw [Sem.bind_eq_wrap', Sem.bind_eq_wrap', Sem.wrap_wrap, Sem.wrap_wrap]
  refine .wrap (wpAny_mono (h _ _ s _ hr r.base r.inv) (fun v s' p => ?_) fun _ _ x => x)
  obtain ⟨st, rp⟩ := p
  have r' := r.stp hst st
  refine .stand (.out hfs fun pp => ?_)
  refine ⟨r'.mv, r'.gin, by simp [End.quiet, hgd, hfg], ⟨v, _, _, _, _, _, _, rfl, rp.weak fun b q => q.1⟩, F, r'.up, r'.dn, r'.nd, ?_⟩
  refine genGo_iff.mpr fun s₂ hc hb hg => ?_
  show Sg G.M A _ c (K .next) fs (s₂.setGen g .running)
  obtain ⟨W, hx, hdom, hF, hok⟩ := hc
  have hno := Plain.owned hp
  refine q s₂ F F _ ⟨hb, hb, ?_, ⟨fun b o _ e => ⟨o, e, rfl, rfl, fun _ => rfl⟩, fun _ _ e => e, rfl, fun _ _ _ e => e, fun z => z⟩, fun a w => r'.up a w, fun _ z => .inl z, fun a w => r'.up a w, fun a ha => ?_, fun a ha => ?_, r'.sub, hst _ _ W r'.res hx (fun a ha => hF a (r'.sub a ha).1) hok, hno, ?_⟩
  · have hFr : ∀ a, FrW env a → ¬ W a := fun a w => hF a (r'.up a w)
    have i' := r'.inv
    have hh : ∀ y v, Holds env s'.heap y v → Holds env s₂.heap y v := fun y v q => by
      rcases q with ⟨k, mm, hns, rr⟩ | ⟨k, cc, hcc, rr⟩
      · obtain ⟨o, es, ep, e, d, rr'⟩ := hns
        obtain ⟨o', e', _, d', _⟩ := hx _ o (hFr _ (.inl rfl)) e
        exact .inl ⟨k, mm, ⟨o', es, ep, e', d'.trans d, rr'⟩, rr⟩
      · obtain ⟨o, e, d⟩ := rr
        obtain ⟨o', e', _, d', _⟩ := hx _ o (hFr _ (.inr ⟨y, hcc⟩)) e
        exact .inr ⟨k, cc, hcc, o', e', d'.trans d⟩
    refine ⟨⟨i'.frame.kind, ?_, fun y cc q => ?_, i'.frame.apart, i'.frame.away, i'.frame.glob, i'.frame.blt⟩, fun a w => ?_, fun b e => .inr (.inl e), fun y dd l => ?_, fun y a es l => absurd l (Plain.noOwn hp), fun a w => ?_, ?_⟩
    · obtain ⟨mm, o, es, ep, e, d, rr⟩ := i'.frame.ns
      obtain ⟨o', e', _, d', _⟩ := hx _ o (hFr _ (.inl rfl)) e
      exact ⟨mm, o', es, ep, e', d'.trans d, rr⟩
    · obtain ⟨v, o, e, d⟩ := i'.frame.cells y cc q
      obtain ⟨o', e', _, d', _⟩ := hx _ o (hFr _ (.inr ⟨y, q⟩)) e
      exact ⟨v, o', e', d'.trans d⟩
    · rcases w with w | w
      · exact i'.off a (.inl w)
      · rw [hno] at w; cases w
    · obtain ⟨u, p, rr⟩ := i'.vals y dd (hsub.get l)
      exact ⟨u, hh y u p, rr.atomic (Plain.get hp l)⟩
    · rw [hno] at w; cases w
    · rw [hno]; exact List.nodup_nil
  · rcases r'.dn a ha with z | z
    · exact r'.off a z
    · cases q : G.base.get? a with
      | none => rfl
      | some o =>
        rw [r'.start a o q] at z; cases z
  · refine ⟨fun nd => (r'.nd a ha).1 (node_back hx (hF a ha) (r'.nd a ha).2 nd), ?_⟩
    cases q : s₂.heap.get? a with
    | some _ => exact (by show (s₂.heap.get? a).isSome = true; rw [q]; rfl)
    | none => have := (r'.nd a ha).2; rw [hdom a q] at this; cases this
  · rw [setGen_get hg]; rfl
end
end Mine
end
section
open PySem PySem.W PyProof.Rows PySem.Calls
set_option maxRecDepth 100000
namespace Mine
section
variable {G : Gr} {n : Nat} {env : Env} {σ : St} {sc : Scope} {A : Around} {okc : Addr → Prop} {g : Nat} {c : Code} {fs : List PySem.Frame} {FR : Addr → Prop} {Res : Heap → Prop} {ds : List D}
  {K : Flow → Sem Fin} {H : Value → Sem Fin} {gd : Bool → Bool} {lv : List Value → List Value}
theorem Sg.bindw {M : Model} {P : End → Shared → Prop} {s : Shared} {α β : Type} {m : Sem α} {f : α → Sem β} {K : β → Sem Fin} (h : wpAny M (A.over c fs) m (fun a s' => Sg M A P c ((f a).wrap K H gd lv) fs s') (fun x s' => Sg M A P c (H x) fs s') s) :
    Sg M A P c ((m >>= f).wrap K H gd lv) fs s := by
  rw [Sem.bind_eq_wrap', Sem.wrap_wrap]; exact .wrap h
theorem Gs.only {σ₀ : St} {t : Sem Fin} (hs : Sub σ₀ σ) (h : Gs G A okc g env c fs FR Res σ₀ t ds) : Gs G A okc g env c fs FR Res σ t ds := fun s₁ F₁ F s r => by
  have ho : owned σ₀ = [] := List.eq_nil_iff_forall_not_mem.mpr fun a w => by have := hs.owned a w; rw [r.own] at this; cases this
  exact h s₁ F₁ F s ⟨r.start, r.base, r.inv.sub hs (by rw [ho]; exact List.nodup_nil), r.mv, r.up, r.dn, r.fr, r.off, r.nd, r.sub, r.res, ho, r.gin⟩
/-- an iterator that leans on the heap alone -/
structure ItrH (G : Gr) (okc : Addr → Prop) (target : Expr) (I : Addr) (es : List D) (fp : Addr → Prop) (Sx : Nat → Heap → Prop) : Prop where
  itr : ∀ A' : Around, A'.handled = none → Itr G A' okc target I es fp fp (fun _ => False) (fun i s => Sx i s.heap)
  frame : ∀ i h h' W, Sx i h → ExtBut G.base W h h' → (∀ a, fp a → ¬ W a) → (∀ a, okc a → IsNode h a → ¬ W a) → Sx i h'
def EvIA (G : Gr) (n : Nat) (env : Env) (σ : St) (okc : Addr → Prop) (Res : Heap → Prop) (e target : Expr) (es : List D) : Prop := ∀ ok A s E, Room n A → G.base.StaysIn s.heap → Inv G.base ok env σ s.heap → Res s.heap →
  wpAny G.M A (eval e env) (fun x s₁ => wpAny G.M A (pyIter x) (fun it s' => Stp G.base s s' ∧ ∃ I fp Sx, it = .ref I ∧ ItrH G okc target I es fp Sx ∧ Sx 0 s'.heap ∧ ∀ a, fp a → s.heap.get? a = none) E s₁) E s
/-- what a loop's turn may lean on -/
structure Lp (G : Gr) (n : Nat) (A : Around) (okc FR : Addr → Prop) (Res : Heap → Prop) (c : Code) (fs : List PySem.Frame) : Prop where
  room : Room n (A.over c fs)
  stable : Stable G okc FR Res
  split : splitAtGen fs = none
  quiet : fs.any Frame.guarded = false
theorem over_loop {A : Around} {target : Expr} {it : Value} {body : List Stmt} {env : Env} {k : Result → Sem Fin} {gb : Bool} {l : List Value} {c : Code} {p : Pos} {fs : List PySem.Frame} (r : Room n (A.over c fs)) :
    Room n (A.over (.forLoop target it body [] env) (.ret k none gb l c p [] :: fs)) := by
  refine ⟨?_, ?_, ?_⟩
  · have := r.handled
    simpa [Around.over, marksOver, Frame.marks, markOver] using this
  · have := r.depth
    have e : (Code.forLoop target it body [] env).weight = 0 := rfl
    simp only [Around.over, List.map_cons, Frame.where_, frameCount_cons, e] at this ⊢
    omega
  · have := r.units
    have e : (Code.forLoop target it body [] env).cUnits = 0 := rfl
    simp only [Around.over, List.map_cons, Frame.where_, unitsOf_cons, e] at this ⊢
    omega
theorem MvI.thenI {base : Heap} {F fp : Addr → Prop} {wg wg' : Nat → Prop} {s s₁ s₂ : Shared} (i : MvI base F wg s s₁) (m : MvI base fp wg' s₁ s₂) (h : ∀ a, fp a → F a ∨ s.heap.get? a = none) (hg : ∀ g, wg' g → wg g) : MvI base F wg s s₂ := by
  refine ⟨fun b o w e => ?_, fun b w e => ?_, m.os.trans i.os, fun j x hj e => m.gkeep j x (fun q => hj (hg j q)) (i.gkeep j x hj e), fun q => m.gbare (i.gbare q)⟩
  · obtain ⟨o', e', c', d', k'⟩ := i.ext b o w e
    obtain ⟨o'', e'', c'', d'', k''⟩ := m.ext b o' (fun z => (h b z).elim w fun z => by rw [z] at e; cases e) e'
    refine ⟨o'', e'', c''.trans c', d''.trans d', fun q => ?_⟩
    have := k' q; subst this
    exact k'' q
  · by_cases z : fp b
    · exact (h b z).elim (fun q => absurd q w) id
    · exact i.dom b w (m.dom b z e)
theorem Run.offF {s₁ s : Shared} {F₁ F : Addr → Prop} (r : Run G okc g env FR Res s₁ F₁ F σ s) : ∀ a, F a → G.base.get? a = none := fun a ha => by
  rcases r.dn a ha with z | z
  · exact r.off a z
  · cases q : G.base.get? a with
    | none => rfl
    | some o => rw [r.start a o q] at z; cases z
theorem Run.mvI {s₁ s s' : Shared} {F₁ F : Addr → Prop} (r : Run G okc g env FR Res s₁ F₁ F σ s) (mi : MvI G.base FR (fun _ => False) s s') :
    G.base.StaysIn s'.heap ∧ Inv G.base (fun b => okc b ∨ s₁.heap.get? b = none ∨ F₁ b) env σ s'.heap ∧ MvI G.base F₁ (· = g) (s₁.setGen g .running) s' ∧ (s'.gens[g]?).isSome = true := by
  refine ⟨fun b o e => ?_, r.inv.mvI mi (fun a ha w => ?_) (fun a ha => (r.nd a (r.sub a ha).1).1) fun b hb => ?_, r.mv.thenI mi (fun a ha => r.dn a (r.sub a ha).1) fun _ z => z.elim, ?_⟩
  · obtain ⟨o', e', _, _, k'⟩ := mi.ext b o (fun z => by rw [r.offF b (r.sub b z).1] at e; cases e) (r.base b o e)
    rw [e', k' (.inl (by rw [e]; rfl))]
  · rcases w with w | w
    · exact (r.sub a ha).2 w
    · rw [r.own] at w; cases w
  · exact .inr ((r.dn b (r.sub b hb).1).symm)
  · obtain ⟨x, hx⟩ := Option.isSome_iff_exists.mp r.gin
    rw [mi.gkeep g x (fun z => z) hx]; rfl
theorem Gs.forA {ι : Type} {target iter : Expr} {body : List Stmt} {pos : Pos} {es : List D} {f : D → St → St} (S : Nat → ι → St) (J : Nat → ι → Prop) (out : Nat → ι → List D) (p₀ : ι)
    (L : Lp G n A okc (fun _ => False) Res c fs) (hgd : gd false = false) (hJ : J 0 p₀) (h0 : Sub (S 0 p₀) σ) (hso : ∀ i p, owned (S i p) = [])
    (hi : EvIA G n env (S 0 p₀) okc Res iter target es) (ht : ∀ d ∈ es, AssD G n env target d (f d)) (hfo : ∀ d i p, owned (f d (S i p)) = [])
    (turn : ∀ (c' : Code) (fs' : List PySem.Frame) (FR' : Addr → Prop) (Res' : Heap → Prop) (KL : Flow → Sem Fin) (HL : Value → Sem Fin) (i : Nat) (d : D) (p : ι), Lp G n A okc FR' Res' c' fs' → es[i]? = some d → J i p →
      (∀ p', J (i + 1) p' → Gs G A okc g env c' fs' FR' Res' (S (i + 1) p') (KL .next) (out (i + 1) p')) → Gs G A okc g env c' fs' FR' Res' (f d (S i p)) ((execs body env).wrap KL HL id id) (out i p))
    (done : ∀ p, J es.length p → Gs G A okc g env c fs (fun _ => False) Res (S es.length p) (K .next) (out es.length p)) (hRes : ∀ h h' W, Res h → ExtBut G.base W h h' → (∀ a, okc a → IsNode h a → ¬ W a) → Res h')
    (hs : ∀ x, foldedSetIterable iter env x = pure x := by intro _; rfl) :
    Gs G A okc g env c fs (fun _ => False) Res σ ((exec (.For target iter body [] pos) env).wrap K H gd lv) (out 0 p₀) := by
  refine Gs.only h0 fun s₁ F₁ F s r => ?_
  rw [exec_For]
  refine .bindw (wpAny_standAt ?_)
  refine .bindw (wpAny_mono (hi _ _ s _ L.room r.base r.inv r.res) (fun x s₂ q => ?_) fun _ _ x => x)
  refine .bindw (wpAny_of_eq (hs x) ?_)
  refine .bindw (wpAny_standAt ?_)
  refine .bindw (wpAny_holding (wpAny_mono q (fun it s₃ q => ?_) fun _ _ x => x))
  obtain ⟨st, I, fp, Sx, rfl, W, hx0, hfp⟩ := q
  have r₃ := r.stp L.stable st
  show Sg _ _ _ _ (.call (.forLoop target (.ref I) body [] env) none (gd false) (lv []) _) _ _
  refine .enter fun pp => ?_
  generalize hc' : Code.forLoop target (.ref I) body [] env = c'
  generalize hfs' : (PySem.Frame.ret _ none (gd false) (lv []) c pp []) :: fs = fs'
  have room' : Room n (A.over c' fs') := by rw [← hc', ← hfs']; exact over_loop L.room
  have split' : splitAtGen fs' = none := by rw [← hfs']; show (splitAtGen fs).map _ = none; rw [L.split]; rfl
  have quiet' : fs'.any Frame.guarded = false := by rw [← hfs']; show (gd false || fs.any Frame.guarded) = false; rw [hgd, L.quiet]; rfl
  have stab' : ∀ j, Stable G okc fp (fun h => Sx j h ∧ Res h) := fun j h h' V q e1 e2 e3 => ⟨W.frame j h h' V q.1 e1 e2 e3, hRes h h' V q.2 e1 e3⟩
  have hA' : ∀ j, Lp G n A okc fp (fun h => Sx j h ∧ Res h) c' fs' := fun j => ⟨room', stab' j, split', quiet'⟩
  have It := W.itr (A.over c' fs') room'.handled
  -- the turns, from the last
  have loop : ∀ m i p, es.length - i = m → i ≤ es.length → J i p → Gs G A okc g env c' fs' fp (fun h => Sx i h ∧ Res h) (S i p) (G.M.den c') (out i p) := by
    intro m
    induction m with
    | zero =>
      intro i p hm hi' hj s₁ F₁ F s r
      have hil : i = es.length := by omega
      subst hil
      rw [← hc']
      show Sg _ _ _ _ ((forTurn target (.ref I) body [] env).onRaise (fun x => do noteFrame x env; theTreesLotGoes x)) _ _
      rw [Sem.onRaise_eq_wrap]
      unfold forTurn
      rw [hc']
      refine .bindw (wpAny_standAt ?_)
      refine .bindw (wpAny_onRaise (wpAny_mono (It.done s (fun _ _ => False) r.res.1 r.base) (fun r' s' q => ?_) fun _ _ f => f.elim))
      obtain ⟨rfl, mi⟩ := q
      show Sg _ _ _ _ (.pure (.again (.block [] env))) _ _
      refine .again rfl ?_
      show Sg _ _ _ _ (leafOf (.ok .next)) _ _
      rw [← hfs']
      refine .back (.ok .next) ?_
      -- the loop is left: the iterator's objects are let go
      obtain ⟨b', i', m', g'⟩ := r.mvI mi
      refine done p hj s₁ F₁ (FrW env) s' ⟨r.start, b', i', m', fun _ w => w, fun a w => .inl (r.fr a w), r.fr, r.off, fun a w => ⟨fun nd => node_not_frame i'.frame nd w, ?_⟩, nofun, hRes _ _ fp r.res.2 mi.ext (fun a _ nd z => (r.nd a (r.sub a z).1).1 nd), r.own, g'⟩
      rcases w with rfl | ⟨x, w⟩
      · obtain ⟨mm, o, _, _, e, _⟩ := i'.frame.ns; rw [e]; rfl
      · obtain ⟨v, o, e, _⟩ := i'.frame.cells x a w; rw [e]; rfl
    | succ m ih =>
      intro i p hm hi' hj s₁ F₁ F s r
      have hlt : i < es.length := by omega
      have hd : es[i]? = some es[i] := List.getElem?_eq_getElem hlt
      rw [← hc']
      show Sg _ _ _ _ ((forTurn target (.ref I) body [] env).onRaise (fun x => do noteFrame x env; theTreesLotGoes x)) _ _
      rw [Sem.onRaise_eq_wrap]
      unfold forTurn
      rw [hc']
      refine .bindw (wpAny_standAt ?_)
      have fr : FreshOk (okO (fun b => okc b ∨ s₁.heap.get? b = none ∨ F₁ b) (S i p)) s.heap := r.inv.freshO
      refine .bindw (wpAny_onRaise (wpAny_mono (It.item i es[i] s (fun _ _ => False) (okO (fun b => okc b ∨ s₁.heap.get? b = none ∨ F₁ b) (S i p)) hd r.res.1 r.base (fun a q => ⟨.inl q, by rw [hso]; simp⟩) fr) (fun r' s' q => ?_) fun _ _ f => f.elim))
      obtain ⟨v, rfl, q⟩ := q
      show Sg _ _ _ _ ((letOwnedTupleGo target (.ref I) v >>= fun _ => PySem.assign target env v >>= fun _ => execs body env >>= fun fl => match fl with
        | .next | .cont => again c'
        | .brk => pure (.done .next)
        | .ret v => pure (.done (.ret v))).wrap .pure _ id id) _ _
      refine .bindw (wpAny_mono q (fun _ s₄ q => ?_) fun _ _ f => f.elim)
      obtain ⟨rp, hSx', mi⟩ := q
      obtain ⟨b', i', m', g'⟩ := r.mvI mi
      have nd' : ∀ a, F a → ¬ IsNode s₄.heap a ∧ (s₄.heap.get? a).isSome = true := fun a ha => by
        by_cases z : fp a
        · exact It.node (i + 1) s₄ a hSx' z
        · refine ⟨fun nd => (r.nd a ha).1 (node_back mi.ext z (r.nd a ha).2 nd), ?_⟩
          cases q : s₄.heap.get? a with
          | some _ => rfl
          | none => have := (r.nd a ha).2; rw [mi.dom a z q] at this; cases this
      have r₄ : Run G okc g env fp (fun h => Sx (i + 1) h ∧ Res h) s₁ F₁ F (S i p) s₄ :=
        ⟨r.start, b', i', m', r.up, r.dn, r.fr, r.off, nd', r.sub, ⟨hSx', hRes _ _ fp r.res.2 mi.ext fun a _ nd z => (r.nd a (r.sub a z).1).1 nd⟩, r.own, g'⟩
      refine .bindw (wpAny_mono (ht es[i] (List.getElem_mem hlt) (S i p) _ _ s₄ _ v room' b' i' rp) (fun _ s₅ q => ?_) fun _ _ x => x)
      obtain ⟨i₅, m₅, o₅⟩ := q
      have b₅ : G.base.StaysIn s₅.heap := m₅.base b' i'.off
      have r₅ := r₄.step (stab' (i + 1)) i₅ m₅ b₅ (hfo _ _ _)
      rw [Sem.bind_eq_wrap', Sem.wrap_wrap]
      refine turn c' fs' fp (fun h => Sx (i + 1) h ∧ Res h) (fun f => (match f with
        | .next | .cont => again c'
        | .brk => pure (.done .next)
        | .ret v => pure (.done (.ret v)) : Sem Fin).wrap .pure _ id id) _ i es[i] p (hA' (i + 1)) hd hj (fun p' hj' => ?_) s₁ F₁ F s₅ r₅
      intro s₁ F₁ F s r
      show Sg _ _ _ _ (.pure (.again c')) _ _
      exact .again (by rw [← hc']; rfl) (ih (i + 1) p' (by omega) hlt hj' s₁ F₁ F s r)
  refine loop es.length 0 p₀ rfl (Nat.zero_le _) hJ s₁ F₁ (fun a => F a ∨ fp a) s₃ ⟨r₃.start, r₃.base, r₃.inv, r₃.mv, fun a w => .inl (r₃.up a w), fun a ha => ?_, r₃.fr, r₃.off, fun a ha => ?_, fun a ha => ⟨.inr ha, fun w => fresh_not_wr r.inv (hfp a ha) (.inl w)⟩, ⟨hx0, r₃.res⟩, r₃.own, r₃.gin⟩
  · rcases ha with ha | ha
    · exact r₃.dn a ha
    · by_cases z : F₁ a
      · exact .inl z
      · exact .inr (r.mv.dom a z (hfp a ha))
  · rcases ha with ha | ha
    · exact r₃.nd a ha
    · exact It.node 0 s₃ a hx0 ha
end
end Mine
end
section
open PySem PySem.W PyProof.Rows PySem.Calls
set_option maxRecDepth 100000
namespace Mine
section
variable {G : Gr} {n : Nat} {env : Env} {σ : St} {sc : Scope} {A : Around} {okc : Addr → Prop} {g : Nat} {c : Code} {fs : List PySem.Frame} {FR : Addr → Prop} {Res : Heap → Prop} {ds : List D}
  {K : Flow → Sem Fin} {H : Value → Sem Fin} {gd : Bool → Bool} {lv : List Value → List Value}
theorem ItrH.of_walksT {elts : List Expr} {k : Nat} {pos : Pos} {I : Addr} {es ds' : List D} {vs : List Value} {fpl wrl : List Addr} {m : Nat} {Pt : Nat → Array Value → Prop} {Stt : Nat → Heap → Prop} {Mid : Nat → Addr → Heap → Prop}
    (W : ∀ A' : Around, A'.handled = none → WalksT G.prog G.w A' I fpl wrl m Pt Stt Mid) (hm : m = es.length)
    (hfp : ∀ b ∈ fpl, b ∈ wrl ∨ (okc b ∧ ∀ i h, Stt i h → IsNode h b)) (hobj : ∀ i h, Stt i h → ∀ b ∈ wrl, ∃ o T, h.get? b = some o ∧ o.cls = .type T ∧ isDict o.data = false ∧ nodeType T = false)
    (hP : ∀ i vals d h, es[i]? = some d → Pt i vals → RepAll okc h vs ds' → ∃ es, d = .tuple es ∧ RepAll okc h vals.toList es) :
    ItrH G okc (.Tuple elts k pos) I es (· ∈ wrl) (fun i h => Stt i h ∧ RepAll okc h vs ds') where
  itr := fun A' hA => Itr.of_walksT (W A' hA) hm hfp hobj hP
  frame := fun i h h' V hs x hf hn => by
    refine ⟨(W callerA rfl).frame i h h' hs.1 fun b hb o e => ?_, hs.2.extBut x hn fun _ q _ => q⟩
    rcases hfp b hb with q | ⟨q1, q2⟩
    · obtain ⟨o₁, T, e₁, _, d₁, _⟩ := hobj i _ hs.1 b q
      rw [e] at e₁; cases e₁
      obtain ⟨o', e', _, _, k'⟩ := x b o (hf b q) e
      rw [e', k' (.inr d₁)]
    · have nd := q2 i _ hs.1
      exact node_keep x nd (hn b q1 nd) e
theorem EvIA.enumS {e : Expr} {x : Str} {p pos tp : Pos} {ts : List Expr} {k : Nat} (hk : env.kindOf "enumerate" = some .globalImplicit) (hg : G.mg "enumerate" = none) (h : Ev G n env σ e (.str x))
    (hns : noStar [e] = true := by rfl) (hplain : (backTo pos (starEach [e] env)).any (·.1) = false := by rfl) (he : starEach [e] env = (false, eval e env) :: starEach [] env := by rfl) :
    EvIA G n env σ okc Res (.Call (.Name "enumerate" p) [e] [] pos) (.Tuple ts k tp) (enumL (signs x)) := fun ok A s E r kb i _ => by
  have hb : Ev G n env σ (.Name "enumerate" p) (.raw (.type "enumerate")) := Ev.builtin hk hg boot_enumerate
  refine Call_ (wpAny_mono (hb ok A s E r kb i) (fun v s₁ p₁ => ?_) fun _ _ x => x)
  obtain ⟨st, rp⟩ := p₁
  cases rp
  have kb₁ := st.ext.base kb
  refine callWith_callee (G := G) (.type _) hplain (wpAny_mono ((EvL.cons h .nil he : EvL G n env σ [e] [.str x]) ok A s₁ E pos r kb₁ (i.ext st.ext)) (fun vs s₂ p₂ => ⟨p₂.1.ext.base kb₁, ?_⟩) fun _ _ x => x) hns
  obtain ⟨st₂, rs⟩ := p₂
  cases rs with
  | cons ra rs =>
    cases rs
    cases ra
    rename_i t
    have st12 := st.trans st₂
    refine call_enumerate_str fun h' he' hit hsz hkeep => ?_
    refine wpAny_pyIter_enum he' ?_
    have st₃ : Stp G.base s₂ { s₂ with heap := h' } := ⟨.of_stays hkeep, rfl, .refl⟩
    have D : ∀ A' : Around, A'.handled = none → Draws G.prog G.w A'.in1 s₂.heap.objs.size [s₂.heap.objs.size] x.cps.size (fun i v => ∃ c u, x.cps[i]? = some c ∧ v = .str ⟨#[c]⟩ u) (fun i h => h.IsStrIter s₂.heap.objs.size (strIterType x) x t i) := fun A' hA => by
      unfold strIterType
      cases x.cps.all (· < 128) with
      | true => exact Draws.strAscii (by exact hA) _ x t
      | false => exact Draws.strWide (by exact hA) _ x t
    have hne : s₂.heap.objs.size + 1 ≠ s₂.heap.objs.size := Nat.succ_ne_self _
    have W := fun A' hA => WalksT.enumerateD (A := A') (D A' hA) (s₂.heap.objs.size + 1) hne (by simp) (by simp)
    have hf0 : ∀ a, s₂.heap.objs.size ≤ a → s.heap.get? a = none := fun a ha => by
      cases q : s₂.heap.get? a with
      | none => exact st12.ext.none q
      | some o => exact absurd (Heap.lt_size q) (Nat.not_lt.mpr ha)
    have hT : nodeType (strIterType x) = false := by unfold strIterType; split <;> rfl
    refine ⟨st12.trans st₃, _, _, _, rfl, ItrH.of_walksT (vs := []) (ds' := []) W (by simp [enumL_length, signs]) (fun b hb => .inl ?_) ?_ ?_, ⟨⟨⟨_, he'⟩, hit⟩, .nil⟩, ?_⟩
    · simpa using hb
    · rintro j h ⟨⟨old, e1⟩, e2⟩ b hb
      simp only [List.mem_cons, List.not_mem_nil, or_false] at hb
      rcases hb with rfl | rfl
      · exact ⟨_, _, e1, rfl, rfl, rfl⟩
      · obtain ⟨o, e2, c2, d2⟩ := e2
        exact ⟨o, _, e2, c2, by rw [d2]; rfl, hT⟩
    · rintro j vals d h hd ⟨tk, y, ⟨c, u, hc, rfl⟩, rfl⟩ _
      obtain ⟨e', he2, rfl⟩ := enumL_get.mp hd
      simp [signs] at he2
      obtain ⟨c', hc', rfl⟩ := he2
      rw [hc] at hc'; cases hc'
      exact ⟨_, rfl, .cons (.int _ _) (.cons (.str _ _) .nil)⟩
    · intro a ha
      refine hf0 a ?_
      simp only [List.mem_cons, List.not_mem_nil, or_false] at ha
      rcases ha with rfl | rfl <;> omega
theorem Gs.fin {t : Sem Fin} (ht : t = leafOf (.ok (.ret .none))) : Gs G A okc g env c [] FR Res σ t [] := fun s₁ F₁ F s r => by
  subst ht
  exact .fin _ ⟨r.mv, r.gin, rfl, rfl⟩
/-- a sleeping frame that knows plain values alone wakes as it was -/
theorem Inv.wake {base : Heap} {ok ok' : Addr → Prop} {W : Addr → Prop} {h h' : Heap} (i : Inv base ok env σ h) (hp : Plain σ = true) (x : ExtBut base W h h') (hf : ∀ a, FrW env a → ¬ W a) (fr : FreshOk ok' h') : Inv base ok' env σ h' := by
  have hno := Plain.owned hp
  have hh : ∀ y v, Holds env h y v → Holds env h' y v := fun y v q => by
    rcases q with ⟨k, mm, hns, rr⟩ | ⟨k, cc, hcc, rr⟩
    · obtain ⟨o, es, ep, e, d, rr'⟩ := hns
      obtain ⟨o', e', _, d', _⟩ := x _ o (hf _ (.inl rfl)) e
      exact .inl ⟨k, mm, ⟨o', es, ep, e', d'.trans d, rr'⟩, rr⟩
    · obtain ⟨o, e, d⟩ := rr
      obtain ⟨o', e', _, d', _⟩ := x _ o (hf _ (.inr ⟨y, hcc⟩)) e
      exact .inr ⟨k, cc, hcc, o', e', d'.trans d⟩
  refine ⟨⟨i.frame.kind, ?_, fun y cc q => ?_, i.frame.apart, i.frame.away, i.frame.glob, i.frame.blt⟩, i.off, fr, fun y dd l => ?_, fun y a es l => absurd l (Plain.noOwn hp), fun a w => ?_, i.once⟩
  · obtain ⟨mm, o, es, ep, e, d, rr⟩ := i.frame.ns
    obtain ⟨o', e', _, d', _⟩ := x _ o (hf _ (.inl rfl)) e
    exact ⟨mm, o', es, ep, e', d'.trans d, rr⟩
  · obtain ⟨v, o, e, d⟩ := i.frame.cells y cc q
    obtain ⟨o', e', _, d', _⟩ := x _ o (hf _ (.inr ⟨y, q⟩)) e
    exact ⟨v, o', e', d'.trans d⟩
  · obtain ⟨u, p, rr⟩ := i.vals y dd l
    exact ⟨u, hh y u p, rr.atomic (Plain.get hp l)⟩
  · rw [hno] at w; cases w
theorem room_gen {body : List Stmt} {env' : Env} (r : Room (n + 1) A) : Room n (A.in1.over (.func body env') []) := by
  refine ⟨?_, ?_, ?_⟩
  · exact r.handled
  · have := r.depth
    show A.depth + 0 + 1 + n < _
    omega
  · have := r.units
    show A.units + 1 + 0 + 3 + 30 * n + 500 < _
    omega
/-- the head of a for over a call of a generator of one plain parameter -/
theorem EvID.gen1 {d : DefRec} {a : Addr} {d1 : D} {x : Str} {e target : Expr} {p pos : Pos} (F : FnAt G d a) (hkn : env.kindOf d.name = some .globalImplicit) (h : Ev G (n + 1) env σ e d1) (hat : Atomic d1 = true)
    (body : ∀ env' A' okc g KF HF, FEnv env' d.scope → Room n (A'.over (.func d.body env') []) → KF .next = leafOf (.ok (.ret .none)) →
      Gs G A' okc g env' (.func d.body env') [] (fun _ => False) (fun _ => True) [(x, .val d1)] ((execs d.body env').wrap KF HF id id) ds)
    (hx : d.params.args.map (·.arg) = [x] := by rfl) (hb : ∀ pm code doc v, bindArgs (docDef d.name d.params d.body d.scope pm code doc) ⟨[v], []⟩ = pure [(x, v)] := by intros; rfl)
    (hloc : d.scope.names.lookup x = some .local := by rfl) (hcell : ∀ y ∈ d.scope.names, y.2 ≠ .cell := by decide)
    (hco : d.scope.isCoroutine = false := by rfl) (hgen : d.scope.isGenerator = true := by rfl) (hk : d.scope.kind = .function := by rfl) (hdn : (d.name == ("__debug__" : Str)) = false := by decide)
    (hns : noStar [e] = true := by rfl) (hplain : (backTo pos (starEach [e] env)).any (·.1) = false := by rfl) (he : starEach [e] env = (false, eval e env) :: starEach [] env := by rfl) :
    EvID G (n + 1) env σ (.Call (.Name d.name p) [e] [] pos) target ds := fun ok A s E r kb i => by
  refine Call_ (wpAny_mono ((fn_ev F hkn hdn : Ev G (n + 1) env σ (.Name d.name p) (.raw (.ref a))) ok A s E r kb i) (fun v s₁ p₁ => ?_) fun _ _ x => x)
  obtain ⟨st, rp⟩ := p₁
  cases rp
  have kb₁ := st.ext.base kb
  refine callWith_callee (G := G) F.callee hplain (wpAny_mono ((EvL.cons h .nil he : EvL G (n + 1) env σ [e] [d1]) ok A s₁ E pos r kb₁ (i.ext st.ext)) (fun vs s₂ p₂ => ⟨p₂.1.ext.base kb₁, ?_⟩) fun _ _ x => x) hns
  obtain ⟨st₂, rs⟩ := p₂
  have st12 := st.trans st₂
  have kb₂ := st₂.ext.base kb₁
  cases rs with
  | @cons v _ _ _ ra rs =>
    cases rs
    obtain ⟨o, pm, code, doc, ho, hd, hcd⟩ := F.obj
    refine wpAny_call (codeAny_call_generator (fd := docDef d.name d.params d.body d.scope pm code doc) (body := d.body) (by have := r.depth; omega) (kb₂ _ _ ho) hd hco hgen rfl (hcd.keeps kb₂) ?_)
    refine wpAny_of_eq (hb pm code doc v) ?_
    refine wpAny_newFunctionEnv hcell (fun y hy => by rw [List.mem_singleton.mp hy]; exact hloc) (fun h' hns' hsb => ?_) hk
    dsimp only at hns' hsb ⊢
    generalize henv : newEnv _ _ _ _ _ _ _ _ _ = env'
    have hsc : env'.scope = d.scope := by rw [← henv]; rfl
    have hcs : env'.cells = [] := by rw [← henv]; rfl
    have hlo : env'.locals = s₂.heap.objs.size := by rw [← henv]; rfl
    have FE : FEnv env' d.scope := ⟨hsc, fun y hy => absurd (mem_of_lookup hy) fun q => hcell _ q rfl⟩
    have keep : ∀ b o, s₂.heap.get? b = some o → h'.get? b = some o := fun b o e => hsb.extBut b o (Nat.ne_of_lt (Heap.lt_size e)) (Heap.get?_push_of_some _ e)
    refine ⟨G.nolimit.keeps fun b o e => keep b o (kb₂ b o e), ?_⟩
    generalize hI : h'.objs.size = I
    have hsz : I = s₂.heap.objs.size + 1 := by rw [← hI, hsb.1, Heap.size_push]
    generalize hs3 : ({ heap := _, gens := _, drawn := _, toks := _, os := _ } : Shared) = s₃
    have hgens : s₃.gens = s₂.gens.push (.fresh (.func d.body env')) := by rw [← hs3]
    have hheap : ∃ o, s₃.heap = h'.push o ∧ o.cls = .type "generator" ∧ (∃ nm qn, o.data = .fields #[.int s₂.gens.size 0, nm, qn]) ∧ o.slots = #[] := by rw [← hs3]; exact ⟨_, rfl, rfl, ⟨_, _, rfl⟩, rfl⟩
    have hos : s₃.os = s₂.os := by rw [← hs3]
    clear hs3
    obtain ⟨og, hheap, hgc, ⟨nm, qn, hgd⟩, hgs⟩ := hheap
    have hgen' : s₃.heap.IsGen I s₂.gens.size := ⟨og, nm, qn, by rw [hheap, ← hI]; exact Heap.get?_push_size _ (by rw [Obj.isFreed_of_fields hgd]), hgc, hgd, hgs⟩
    have keep₃ : ∀ b o, s₂.heap.get? b = some o → s₃.heap.get? b = some o := fun b o e => by rw [hheap]; exact Heap.get?_push_of_some _ (keep b o e)
    have st₃ : Stp G.base s₂ s₃ := ⟨.of_stays keep₃, hos, ⟨fun j x e => by
      have hlt := (Array.getElem?_eq_some_iff.mp e).1
      rw [hgens, Array.getElem?_push, if_neg (Nat.ne_of_lt hlt)]
      exact e, fun q x hx => by
      rw [hgens] at hx
      rcases Array.mem_push.mp hx with hx | rfl
      · exact q x hx
      · rfl⟩⟩
    have hL₂ : ∀ b, s₂.heap.objs.size ≤ b → s.heap.get? b = none := fun b hb => by
      cases q : s₂.heap.get? b with
      | none => exact st12.ext.none q
      | some o => exact absurd (Heap.lt_size q) (Nat.not_lt.mpr hb)
    have hfrw : ∀ b, FrW env' b → b = s₂.heap.objs.size := fun b w => by
      rcases w with w | ⟨y, w⟩
      · exact w.trans hlo
      · rw [hcs] at w; cases w
    have hns₃ : s₃.heap.Ns s₂.heap.objs.size (fun y => [(x, v)].reverse.lookup y) := hns'.keeps fun b o e => by rw [hheap]; exact Heap.get?_push_of_some _ e
    have inv₃ : Inv G.base (fun _ => True) env' [(x, .val d1)] s₃.heap := by
      refine ⟨⟨(by rw [hsc]; exact hk), ⟨_, (by rw [hlo]; exact hns₃)⟩, fun y c l => (by rw [hcs] at l; cases l), (by rw [hcs]; exact List.Pairwise.nil), fun y c l => (by rw [hcs] at l; cases l), (by rw [← henv]; rfl), (by rw [← henv]; rfl)⟩, fun b w => ?_, fun _ _ => trivial, fun y dd l => ?_, fun y b es l => ?_, fun b w => (nomatch w), List.nodup_nil⟩
      · have := hfrw b (w.elim id fun z => nomatch z)
        cases q : G.base.get? b with
        | none => rfl
        | some o => exact absurd (Heap.lt_size (kb₂ b o q)) (by rw [this]; exact Nat.lt_irrefl _)
      · rw [List.lookup_cons] at l
        cases q : y == x with
        | false => rw [q] at l; cases l
        | true =>
          rw [q] at l; cases l
          have q := beq_iff_eq.mp q
          subst q
          exact ⟨v, .inl ⟨FE.kind hloc, _, by rw [hlo]; exact hns₃, by simp⟩, ra.atomic hat⟩
      · rw [List.lookup_cons] at l
        cases q : y == x with
        | false => rw [q] at l; cases l
        | true => rw [q] at l; cases l
    have hIL : ¬ FrW env' I := fun w => by have h1 := hfrw I w; rw [hsz] at h1; exact Nat.succ_ne_self _ h1
    refine wpAny_pyIter_gen hgen' ⟨st12.trans st₃, I, _, _, _, rfl, ItrD.gen (C := FrW env') (g := s₂.gens.size) r.handled (by have := r.depth; omega), ⟨FrW env', rfl, fun _ w => w, hIL, hgen', fun b w => ?_, .fresh (.func d.body env'), ?_, ?_⟩, fun b hb' => ?_, fun g' hg' => ?_⟩
    · rw [hfrw b w]
      refine ⟨ns_not_node hns₃, ?_⟩
      obtain ⟨o, _, _, e, _⟩ := hns₃; rw [e]; rfl
    · rw [hgens]; simp
    · refine genGo_iff.mpr fun s₄ hc hb₄ hg₄ => ?_
      obtain ⟨V, hx4, hdom4, hF4, hok4⟩ := hc
      show Sg G.M A.in1 _ _ (.point [] fun _ => ((execs d.body env').onRaise (leaving env')) >>= _) [] _
      refine .mark ?_
      rw [Sem.onRaise_eq_wrap, Sem.bind_eq_wrap', Sem.wrap_wrap]
      have hp : Plain [(x, .val d1)] = true := by show (Atomic d1 && true) = true; rw [hat]; rfl
      refine body env' A.in1 _ s₂.gens.size _ _ FE (room_gen r) rfl s₄ (FrW env') (FrW env') _ ⟨hb₄, hb₄, inv₃.wake hp hx4 hF4 fun b e => .inr (.inl e), ⟨fun b o _ e => ⟨o, e, rfl, rfl, fun _ => rfl⟩, fun _ _ e => e, rfl, fun _ _ _ e => e, fun z => z⟩, fun _ w => w, fun _ w => .inl w, fun _ w => w, fun b w => inv₃.off b (.inl w), fun b w => ⟨fun nd => ?_, ?_⟩, nofun, trivial, rfl, ?_⟩
      · rw [hfrw b w] at nd
        exact ns_not_node hns₃ (node_back hx4 (hF4 _ (.inl hlo.symm)) (by obtain ⟨o, _, _, e, _⟩ := hns₃; rw [e]; rfl) nd)
      · cases q : s₄.heap.get? b with
        | some _ => exact (by show (s₄.heap.get? b).isSome = true; rw [q]; rfl)
        | none =>
          have := hdom4 b q
          rw [hfrw b w] at this
          obtain ⟨o, _, _, e, _⟩ := hns₃; rw [e] at this; cases this
      · rw [setGen_get hg₄]; rfl
    · rcases hb' with w | rfl
      · rw [hfrw b w]; exact hL₂ _ (Nat.le_refl _)
      · exact hL₂ _ (by omega)
    · subst hg'
      cases q : s.gens[s₂.gens.size]? with
      | none => rfl
      | some y =>
        have := st12.gens.keep _ _ q
        exact absurd (Array.getElem?_eq_some_iff.mp this).1 (Nat.lt_irrefl _)
end
end Mine
end
section
open PySem PySem.W PyProof.Rows PySem.Calls
set_option maxRecDepth 100000
namespace Mine
section
variable {G : Gr} {n : Nat} {env : Env} {σ : St} {sc : Scope}
theorem load_holds {M : Model} {A : Around} {E : Value → Shared → Prop} {s : Shared} {x : Str} {v : Value} {Q : Value → Shared → Prop} (hk : env.scope.kind = .function) (q : Holds env s.heap x v) (h : Q v s) (hc : (x == ("__classdict__" : Str)) = false) : wpAny M A (loadName env x) Q E s := by
  rcases q with ⟨k, m, hn, hv⟩ | ⟨k | k, c, hl, hv⟩
  · exact wpAny_loadName_local hk k hn hv h
  · exact wpAny_loadName_cell hk k hl hv h
  · exact wpAny_loadName_free hk k hl hv h hc
/-- x += e, x -= e -/
theorem Ex1.aug {x : Str} {op : Operator} {e : Expr} {p pos : Pos} {i j k : Int} (hl : σ.lookup x = some (.val (.int i))) (h : Ev G n env σ e (.int j)) (hx : Storable env x) (ho : (op = .Add ∧ k = i + j) ∨ (op = .Sub ∧ k = i - j)) (hc : (x == ("__classdict__" : Str)) = false := by decide) :
    Ex1 G n env σ (.AugAssign (.Name x p) op e pos) fun fl σ' => fl = .next ∧ σ' = setS x (.val (.int k)) σ := fun ok A s E r kb iv => by
  obtain ⟨v, hv, rv⟩ := iv.vals x _ hl
  cases rv
  refine wpAny_AugAssign_Name (load_holds iv.frame.kind hv (wpAny_mono (h ok A s E r kb iv) (fun w s₁ p₁ => ?_) fun _ _ x => x) hc)
  obtain ⟨st, rw'⟩ := p₁
  cases rw'
  have i₁ := iv.ext st.ext
  have fin : ∀ s₂, Stp G.base s₁ s₂ → ∀ t, wpAny G.M A (storeName env x (.int k t)) (fun _ => After G env σ ok s (fun fl σ' => fl = .next ∧ σ' = setS x (.val (.int k)) σ) .next) E s₂ := fun s₂ st₂ t => by
    have st' := st.trans st₂
    have i₂ := iv.ext st'.ext
    refine wpAny_store (base := G.base) i₂.frame hx fun s₃ hv ho F m => ?_
    have m' : Mv G.base (Wr env σ) s s₃ := (st'.mv (W := Wr env σ)).trans (m.weak fun _ w => Or.inl w) fun _ w => .inl w
    exact ⟨.next, _, ⟨rfl, rfl⟩, trivial, i₂.set_val m F hv ho (.int _ _), m', m'.base kb iv.off, fun a w => .inl (owned_setS_val w)⟩
  rcases ho with ⟨rfl, rfl⟩ | ⟨rfl, rfl⟩
  · exact AutoIntOps.iadd_0 (fin _ .tok _)
  · exact AutoIntOps.isub_0 (fin _ .tok _)
theorem CmpD.notIn_str {x y : Str} : CmpD G n .NotIn (.str y) (.str x) (!Txt.contains x y) := fun ok A s E va vb r k f ra rb => by
  cases ra; cases rb; exact SB.notContains ⟨.refl, rfl⟩
theorem CmpD.none_is : CmpD G n .Is .none .none true := fun ok A s E va vb r k f ra rb => by
  cases ra; cases rb; exact wpAny_is_self rfl ⟨.refl, rfl⟩
theorem CmpD.int_is {i : Int} : CmpD G n .Is (.int i) .none false := fun ok A s E va vb r k f ra rb => by
  cases ra; cases rb; exact is_int_none ⟨.refl, rfl⟩
theorem strs_of {ok : Addr → Prop} {h : Heap} : ∀ {vs : List Value} {ts : List Str}, RepAll ok h vs (ts.map .str) → ∃ l : List (Str × Tok), strValues l = vs ∧ l.map (·.1) = ts
  | _, [], .nil => ⟨[], rfl, rfl⟩
  | _, t :: ts, .cons (.str _ u) r => by
    obtain ⟨l, h1, h2⟩ := strs_of r
    exact ⟨(t, u) :: l, by rw [← h1]; rfl, by rw [← h2]; rfl⟩
theorem CallD.join {x : Str} {ts : List Str} (hok : JoinOk x ts = true) : CallD G n (.builtin "str.join") [.str x, .list (ts.map .str)] (.str (Txt.join x ts)) := fun ok A s E vs r k f rs => by
  cases rs with
  | cons a rs => cases rs with
    | cons b rs =>
      cases rs; cases a
      cases b with
      | list o l ra =>
        obtain ⟨l', rfl, h2⟩ := strs_of ra
        exact SC.join l h2 hok fun t' k => ⟨.tok, .str _ _⟩
theorem MethD.join {x : Str} : MethD G n (.str x) "join" (.builtin "str.join") := fun ok A s E v pl r k f rp => by
  cases rp; exact GM.join ⟨.refl, rfl⟩
theorem Ev.methB {o : Expr} {name : Str} {apos pos : Pos} {es : List Expr} {f : Value} {dv : D} {ds : List D} {d : D} (ho : EvB G n env σ o dv) (hm : MethD G n dv name f) (c : Callee G f) (ha : EvLB G n env σ es ds) (hc : CallD G n f (dv :: ds) d) (hat : Atomic d = true)
    (hns : noStar es = true := by rfl) (hplain : (backTo pos (starEach es env)).any (·.1) = false := by rfl)
    {pl : Sem Bool} (he : eval (.Call (.Attribute o name apos) es [] pos) env = (do
      let ov ← eval o env
      standAt apos.atName
      let (f, first) ← holding [ov] (getMethod ov name pl)
      callWith pos f first (backTo pos (starEach es env)) []) := by rfl) : Ev G n env σ (.Call (.Attribute o name apos) es [] pos) d := fun ok A s E r k i =>
  MethodCall_ (pl := pl) (wpAny_mono (ho ok A s E r k i) (fun v s₁ p₁ => wpAny_mono (hm _ A s₁ E v _ r (p₁.1.ext.base k) (i.ext p₁.1.ext).fresh p₁.2) (fun fx s₂ p₂ => by
    obtain ⟨st₂, rfl⟩ := p₂
    have st := p₁.1.trans st₂
    refine callWith_callee c hplain (wpAny_mono (ha ok A s₂ E pos r (st.ext.base k) (i.ext st.ext)) (fun vs s₃ p₃ => ⟨p₃.1.ext.base (st.ext.base k), ?_⟩) fun _ _ x => x) hns
    have st' := st.trans p₃.1
    exact wpAny_mono (hc _ A s₃ E (v :: vs) r (st'.ext.base k) (i.ext st'.ext).fresh (.cons ((p₁.2.stp st₂).stp p₃.1) p₃.2)) (fun _ _ p₄ => ⟨st'.trans p₄.1, p₄.2.atomic hat⟩) fun _ _ x => x) fun _ _ x => x) fun _ _ x => x) he
theorem join_none : ∀ (ls : List (List Nat)), Txt.join (S []) (ls.map S) = S ls.flatten := by
  intro ls
  unfold Txt.join
  rw [StrLaws.glued_eq_join]
  induction ls with
  | nil => rfl
  | cons l r ih =>
    cases r with
    | nil => show S l = _; simp
    | cons m t =>
      show S l ++ S [] ++ Str.join (S []) ((m :: t).map S) = _
      rw [ih]
      show (⟨(l.toArray ++ #[]) ++ (m :: t).flatten.toArray⟩ : Str) = _
      simp
theorem joinOk_none {ls : List (List Nat)} (h : ls.flatten.length ≤ sizeLine) : JoinOk (S []) (ls.map S) = true := by
  unfold JoinOk
  rw [StrLaws.joinTotal]
  have e : ((ls.map S).map (·.length)).sum = ls.flatten.length := by
    clear h
    induction ls with
    | nil => rfl
    | cons l r ih => rw [List.map_cons, List.map_cons, List.sum_cons, ih, List.flatten_cons, List.length_append, S_length]
  rw [e]
  show (!decide (ls.flatten.length + (ls.map S).length * 0 > sizeLine)) = true
  rw [Nat.mul_zero, Nat.add_zero]
  rw [Bool.not_eq_true', decide_eq_false_iff_not]; omega
end
end Mine
end
section
open PySem PySem.W PyProof.Rows PySem.Calls
set_option maxRecDepth 100000
namespace Mine
/-- signs with their places, a backslash and the sign behind it as one -/
def toks : Nat → Bool → List Nat → List (Nat × List Nat)
  | i, false, [] => []
  | i, true, [] => [(i - 1, [92])]
  | i, true, c :: r => (i, [92, c]) :: toks (i + 1) false r
  | i, false, c :: r => if c = 92 then toks (i + 1) true r else (i, [c]) :: toks (i + 1) false r
def tokD (t : Nat × List Nat) : D := .tuple [.int (t.1 : Nat), .str (S t.2)]
theorem toks_length : ∀ (l : List Nat) (i : Nat) (b : Bool), (toks i b l).length ≤ l.length + 1
  | [], i, false => by simp [toks]
  | [], i, true => by simp [toks]
  | c :: r, i, true => by have := toks_length r (i + 1) false; simp [toks]; omega
  | c :: r, i, false => by
    unfold toks
    split
    · have := toks_length r (i + 1) true; simp; omega
    · have := toks_length r (i + 1) false; simp; omega
abbrev SS := Nat × Option Nat × List (List Nat)
def stripStep (l : List Nat) (st : SS) (t : Nat × List Nat) : SS :=
  if t.2 = [34] then match st.2.1 with
    | none => (st.1, some t.1, st.2.2)
    | some o => (t.1 + 1, none, if st.1 ≠ o then st.2.2 ++ [(l.drop st.1).take (o - st.1)] else st.2.2)
  else st
def stripAt (l : List Nat) (ts : List (Nat × List Nat)) : SS := ts.foldl (stripStep l) (0, none, [])
def stripEnd (l : List Nat) (st : SS) : List (List Nat) := if st.1 < l.length then st.2.2 ++ [l.drop st.1] else st.2.2
def strip (l : List Nat) : List Nat := if 34 ∈ l then (stripEnd l (stripAt l (toks 0 false l))).flatten else l
theorem stripAt_snoc (l : List Nat) (ts : List (Nat × List Nat)) (t : Nat × List Nat) : stripAt l (ts ++ [t]) = stripStep l (stripAt l ts) t := by simp [stripAt]
theorem stripAt_rows (l : List Nat) : ∀ (ts : List (Nat × List Nat)), (stripAt l ts).2.2.length ≤ ts.length ∧ ∀ p ∈ (stripAt l ts).2.2, p.length ≤ l.length := by
  intro ts
  have go : ∀ (ts : List (Nat × List Nat)) (st : SS), (∀ p ∈ st.2.2, p.length ≤ l.length) → (ts.foldl (stripStep l) st).2.2.length ≤ st.2.2.length + ts.length ∧ ∀ p ∈ (ts.foldl (stripStep l) st).2.2, p.length ≤ l.length := by
    intro ts
    induction ts with
    | nil => intro st h; exact ⟨Nat.le_refl _, h⟩
    | cons t r ih =>
      intro st h
      have h1 : (stripStep l st t).2.2.length ≤ st.2.2.length + 1 ∧ ∀ p ∈ (stripStep l st t).2.2, p.length ≤ l.length := by
        unfold stripStep
        split
        · split
          · exact ⟨Nat.le_succ _, h⟩
          · split
            · refine ⟨by simp, fun p hp => ?_⟩
              rcases List.mem_append.mp hp with hp | hp
              · exact h p hp
              · rw [List.mem_singleton.mp hp]; simp; omega
            · exact ⟨Nat.le_succ _, h⟩
        · exact ⟨Nat.le_succ _, h⟩
      have := ih _ h1.2
      refine ⟨?_, this.2⟩
      have := this.1
      simp only [List.foldl_cons, List.length_cons] at this ⊢
      omega
  have := go ts (0, none, []) nofun
  exact ⟨by have h := this.1; simp only [List.length_nil, Nat.zero_add] at h; exact h, this.2⟩
theorem flatten_le {ls : List (List Nat)} {m : Nat} (h : ∀ p ∈ ls, p.length ≤ m) : ls.flatten.length ≤ ls.length * m := by
  induction ls with
  | nil => simp
  | cons a r ih =>
    have := ih fun p hp => h p (.tail _ hp)
    have := h a (.head _)
    rw [List.flatten_cons, List.length_append, List.length_cons, Nat.succ_mul]; omega
theorem stripEnd_rows (l : List Nat) : (stripEnd l (stripAt l (toks 0 false l))).length ≤ l.length + 2 ∧ ∀ p ∈ stripEnd l (stripAt l (toks 0 false l)), p.length ≤ l.length := by
  have h := stripAt_rows l (toks 0 false l)
  have h2 := toks_length l 0 false
  unfold stripEnd
  split
  · refine ⟨by simp; omega, fun p hp => ?_⟩
    rcases List.mem_append.mp hp with hp | hp
    · exact h.2 p hp
    · rw [List.mem_singleton.mp hp]; simp
  · exact ⟨by omega, h.2⟩
/-- the count of open brackets, none once it fell below -/
def openStep (st : Option Int) (t : Nat × List Nat) : Option Int := match st with
  | none => none
  | some k => if t.2 = [40] then some (k + 1) else if t.2 = [41] then (if k - 1 < 0 then none else some (k - 1)) else some k
def openAt (ts : List (Nat × List Nat)) : Option Int := ts.foldl openStep (some 0)
def sound (l : List Nat) : Bool := openAt (toks 0 false l) == some 0
def check (l : List Nat) : Bool := sound (strip l)
def bad : List Nat := [40, 39, 39, 44, 32, 39, 39, 41]
def pre (l : List Nat) : List Nat := if check l then l else bad
theorem openAt_snoc (ts : List (Nat × List Nat)) (t : Nat × List Nat) : openAt (ts ++ [t]) = openStep (openAt ts) t := by simp [openAt]
theorem openAt_none (ts : List (Nat × List Nat)) : ts.foldl openStep none = none := by
  induction ts with
  | nil => rfl
  | cons t r ih => simpa [openStep] using ih
/-- two names take a pair -/
def pairS (x y : Str) : D → St → St
  | .tuple [a, b], σ => setS y (.val b) (setS x (.val a) σ)
  | _, σ => σ
theorem S_inj {l m : List Nat} : S l = S m ↔ l = m := by
  constructor
  · intro h
    have := congrArg (fun x : Str => x.cps.toList) h
    simpa using this
  · intro h; rw [h]
theorem sz {k : Nat} (h : k ≤ 16000000) : k ≤ sizeLine := Nat.le_trans h (by decide)
section
variable {G : Gr} {n : Nat} {env : Env} {σ : St} {A : Around} {okc : Addr → Prop} {g : Nat} {c : Code} {fs : List PySem.Frame} {FR : Addr → Prop} {Res : Heap → Prop} {ds : List D}
theorem AssD.pair {x y : Str} {p q tp : Pos} {k : Nat} {a b : D} (hx : Storable env x) (hy : Storable env y) : AssD G n env (.Tuple [.Name x p, .Name y q] k tp) (.tuple [a, b]) (pairS x y (.tuple [a, b])) :=
  AssD.tuple (f := pairS x y (.tuple [a, b])) (AssL.cons (f := setS x (.val a)) (g := fun σ => setS y (.val b) σ) (.name hx) (AssL.cons (f := setS y (.val b)) (g := id) (.name hy) .nil)) rfl
theorem EvB.castB {e : Expr} {d d' : D} (h : EvB G n env σ e d) (q : d = d') : EvB G n env σ e d' := q ▸ h
theorem Gs.of {σ₀ : St} {t : Sem Fin} (h : Gs G A okc g env c fs FR Res σ₀ t ds) (hs : Sub σ₀ σ) : Gs G A okc g env c fs FR Res σ t ds := Gs.only hs h
end
end Mine
end
section
open PySem PySem.W PyProof.Rows PySem.Calls
set_option maxRecDepth 100000
namespace Mine
section
variable {G : Gr} {n : Nat} {env : Env} {σ : St} {sc : Scope}
theorem BinD.add_list {ds es : List D} (hz : ds.length + es.length ≤ sizeLine) : BinD G n .Add (.list ds) (.list es) (.list (ds ++ es)) := fun ok A s E va vb r k f ra rb => by
  cases ra with
  | @list a vs _ o l rs =>
    cases rb with
    | @list b ws _ o2 l2 rs2 =>
      obtain ⟨⟨cls, dd, data, sl⟩, ho, hc, m, hd⟩ := id l
      obtain ⟨⟨cls2, dd2, data2, sl2⟩, ho2, hc2, m2, hd2⟩ := id l2
      simp only at hc hd hc2 hd2
      subst hc hd hc2 hd2
      have e : vs.toArray ++ ws.toArray = (vs ++ ws).toArray := by simp
      refine concat_meets ⟨_, ho, rfl⟩ ⟨_, ho2, rfl⟩ noFill_list_add seq_list_add PySem.F.slot_list_add PySem.F.entry_list_add (PySem.F.args_list_add_2 _ _) (list_addW a b vs.toArray ws.toArray m m2 dd dd2 sl sl2 (by simpa [rs.length, rs2.length] using hz)) ⟨ho, ho2, ?_⟩
      rw [e]
      have st : Stp G.base s { s with heap := s.heap.push { cls := .type "list", data := .seq (vs ++ ws).toArray }, toks := s.toks } := .push
      exact ⟨st, .list (f _ fresh_get) ⟨_, Heap.get?_push_size _ rfl, rfl, _, rfl⟩ ((rs.stp st).append (rs2.stp st))⟩
theorem CallD.sum {ns : List Int} : CallD G n (.builtin "sum") [.list (ns.map .int)] (.int ns.sum) := fun ok A s E vs r k f rs => by
  cases rs with
  | cons a rs =>
    cases rs
    cases a with
    | @list a vs _ o l ra =>
      have hI : ∀ {vs : List Value} {ns : List Int}, RepAll ok s.heap vs (ns.map .int) → IntsAre vs ns := by
        intro vs ns
        induction ns generalizing vs with
        | nil => intro h; cases h; exact .nil
        | cons m r ih => intro h; cases h with | cons a b => cases a; exact .cons _ _ (ih b)
      have hi := hI ra
      obtain ⟨xs, hx⟩ := hi.allInts.items
      rw [hx] at l
      refine sum_intListG r.handled l fun h' tk t' hk => ⟨.heap hk, ?_⟩
      have e : preSum (numAt xs) xs.size = ns.sum := by
        rw [preSum_eq, List.take_of_length_le (by simp), ← hi.numsOf, ← nums_intItems, ← hx]
      rw [e]; exact .int _ _
end
end Mine
end
section
open PySem PySem.W PyProof.Rows PySem.Calls
set_option maxRecDepth 100000
namespace Mine
section
variable {G : Gr} {n : Nat} {env : Env} {σ : St} {sc : Scope}
theorem repAll_times {ok : Addr → Prop} {h : Heap} {vs : List Value} {ds : List D} (r : RepAll ok h vs ds) : ∀ k : Nat, RepAll ok h (List.replicate k vs).flatten (List.replicate k ds).flatten
  | 0 => .nil
  | k + 1 => by
    rw [List.replicate_succ, List.replicate_succ, List.flatten_cons, List.flatten_cons]
    exact r.append (repAll_times r k)
/-- [..] * k -/
theorem EvF.mul {a b : Expr} {p : Pos} {ds : List D} {k : Int} (ha : EvF G n env σ a ds) (hb : Ev G n env σ b (.int k)) (h0 : 0 ≤ k) (h1 : k < 2 ^ 62) (hz : ds.length * k.toNat ≤ 2 ^ 24) : EvF G n env σ (.BinOp a .Mult b p) (List.replicate k.toNat ds).flatten := fun ok A s E r kb i =>
  wpAny_BinOp (wpAny_mono (ha ok A s E r kb i) (fun va s₁ p₁ => by
    obtain ⟨st, l, vs, rfl, f, ⟨m, hl⟩, rs⟩ := p₁
    refine wpAny_mono (hb ok A s₁ E r (st.ext.base kb) (i.ext st.ext)) (fun vb s₂ p₂ => ?_) fun _ _ x => x
    obtain ⟨st₂, rp⟩ := p₂
    cases rp
    rename_i u
    have st12 := st.trans st₂
    obtain ⟨m₂, hl₂⟩ := st₂.ext.own ⟨m, hl⟩
    have rs₂ := rs.stp st₂
    have hl' : s₂.heap.get? l = some { cls := .type "list", dict := none, data := .seq vs.toArray m₂, slots := #[] } := hl₂
    refine wpAny_binaryOp_repeat_ref (T := "list") (U := "int") (by decide) ⟨_, hl', rfl⟩ (fun s' => typeIs_int s' k u) noFill_list_mul F.fills_int_mul F.slot_int_rmul repeat_list F.slot_int_index.lookup
      (call_meets F.slot_int_rmul (typeIs_int s₂ k u) F.entry_int_rmul (F.args_int_rmul_2 _ _) (int___rmul___int_list k u l vs.toArray m₂)
        ⟨hl', rfl, ⟨_, hl', rfl⟩, call_meets F.slot_list_mul ⟨_, hl', rfl⟩ F.entry_list_mul (F.args_list_mul_2 _ _)
          (AutoListH.list___mul___list_int_3 l vs.toArray m₂ k u (by simp [Builtin.List.listFitsIndex]; omega) (by rw [List.size_toArray, rs₂.length]; omega) (by rw [List.size_toArray, rs₂.length]; simp [Builtin.List.listTooLong, sizeLine]; omega))
          ⟨hl', ?_⟩⟩)
    rw [listMul_foldl_if]
    have st₃ : Stp G.base s₂ { s₂ with heap := s₂.heap.push { cls := .type "list", data := .seq (List.replicate k.toNat vs.toArray.toList).flatten.toArray }, toks := s₂.toks } := .push
    have rs₃ : RepAll (fun b => okO ok σ b ∧ b ≠ s₂.heap.objs.size) { s₂ with heap := s₂.heap.push { cls := .type "list", data := .seq (List.replicate k.toNat vs.toArray.toList).flatten.toArray }, toks := s₂.toks }.heap vs ds :=
      rs₂.ext st₃.ext fun b q z => ⟨q.1, fun e => by rw [e, fresh_get] at z; cases z⟩
    show Stp G.base s _ ∧ _
    exact ⟨st12.trans st₃, s₂.heap.objs.size, (List.replicate k.toNat vs).flatten, rfl, st12.ext.none fresh_get, ⟨_, Heap.get?_push_size _ rfl⟩, repAll_times rs₃ k.toNat⟩) fun _ _ x => x)
end
end Mine
end
section
open PySem PySem.W PyProof.Rows PySem.Calls
set_option maxRecDepth 100000
namespace Mine
/-- lists one in the other, each the last item of the one before, all still open -/
inductive Spine (ok : Addr → Prop) (h : Heap) : List Addr → List (List D) → Prop
  | last {a : Addr} {vs : List Value} {c : List D} : OwnL h a vs → RepAll ok h vs c → Spine ok h [a] [c]
  | cons {a b : Addr} {as : List Addr} {vs : List Value} {c : List D} {cs : List (List D)} : OwnL h a (vs ++ [.ref b]) → RepAll ok h vs c → Spine ok h (b :: as) cs → Spine ok h (a :: b :: as) (c :: cs)
/-- what they say once closed -/
def closeD : List (List D) → List D
  | [] => []
  | [c] => c
  | c :: cs => c ++ [.list (closeD cs)]
theorem Spine.ext {ok ok' : Addr → Prop} {base h h' : Heap} {W : Addr → Prop} {as : List Addr} {cs : List (List D)} (s : Spine ok h as cs) (x : ExtBut base W h h') (ha : ∀ a ∈ as, ¬ W a) (hn : ∀ a, ok a → IsNode h a → ¬ W a) (hk : ∀ a, ok a → (h.get? a).isSome = true → ok' a) : Spine ok' h' as cs := by
  induction s with
  | last l r => exact .last (x.own (ha _ (.head _)) l) (r.extBut x hn hk)
  | cons l r _ ih => exact .cons (x.own (ha _ (.head _)) l) (r.extBut x hn hk) (ih fun a q => ha a (.tail _ q))
theorem Spine.some {ok : Addr → Prop} {h : Heap} {as : List Addr} {cs : List (List D)} (s : Spine ok h as cs) : ∀ a ∈ as, ∃ vs, OwnL h a vs := by
  induction s with
  | last l _ => intro a q; rw [List.mem_singleton.mp q]; exact ⟨_, l⟩
  | cons l _ _ ih =>
    intro a q
    rcases List.mem_cons.mp q with q | q
    · rw [q]; exact ⟨_, l⟩
    · exact ih a q
theorem Spine.rep {ok ok' : Addr → Prop} {h : Heap} {as : List Addr} {cs : List (List D)} (s : Spine ok h as cs) (h1 : ∀ a, ok a → ok' a) (h2 : ∀ a ∈ as, ok' a) : ∀ a, as.head? = .some a → Rep ok' h (.ref a) (.list (closeD cs)) := by
  induction s with
  | last l r => intro a e; cases e; exact .list (h2 _ (.head _)) l.list (r.weak h1)
  | @cons a b as vs c cs l r sp ih =>
    intro a' e; cases e
    have hb := ih (fun a q => h2 a (.tail _ q)) b rfl
    have hc : closeD (c :: cs) = c ++ [.list (closeD cs)] := by cases sp <;> rfl
    rw [hc]
    exact .list (h2 _ (.head _)) l.list ((r.weak h1).append (.cons hb .nil))
section
variable {G : Gr} {n : Nat} {env : Env} {σ : St}
structure SpI (base : Heap) (ok : Addr → Prop) (env : Env) (σ : St) (as : List Addr) (cs : List (List D)) (h : Heap) : Prop where
  inv : Inv base (fun b => ok b ∧ b ∉ as) env σ h
  sp : Spine (okO (fun b => ok b ∧ b ∉ as) σ) h as cs
  nd : as.Nodup
  off : ∀ a ∈ as, base.get? a = none
  okA : ∀ a ∈ as, ok a
  apart : ∀ a ∈ as, ¬ Wr env σ a
def AfterR (G : Gr) (env : Env) (σ : St) (as : List Addr) (ok : Addr → Prop) (s : Shared) (Q : Fl → St → List Addr → List (List D) → Prop) (f : Flow) (s' : Shared) : Prop :=
  ∃ fl σ' as' cs', Q fl σ' as' cs' ∧ FlowIs ok s'.heap f fl ∧ SpI G.base ok env σ' as' cs' s'.heap ∧ Mv G.base (fun a => Wr env σ a ∨ a ∈ as) s s' ∧ G.base.StaysIn s'.heap ∧ ∀ a, (a ∈ owned σ' ∨ a ∈ as') → (a ∈ owned σ ∨ a ∈ as) ∨ s.heap.get? a = none
def ExR (G : Gr) (n : Nat) (env : Env) (σ : St) (as : List Addr) (cs : List (List D)) (body : List Stmt) (Q : Fl → St → List Addr → List (List D) → Prop) : Prop := ∀ ok A s E, Room n A → G.base.StaysIn s.heap → SpI G.base ok env σ as cs s.heap →
  wpAny G.M A (execs body env) (AfterR G env σ as ok s Q) E s
def ExR1 (G : Gr) (n : Nat) (env : Env) (σ : St) (as : List Addr) (cs : List (List D)) (st : Stmt) (Q : Fl → St → List Addr → List (List D) → Prop) : Prop := ∀ ok A s E, Room n A → G.base.StaysIn s.heap → SpI G.base ok env σ as cs s.heap →
  wpAny G.M A (exec st env) (AfterR G env σ as ok s Q) E s
theorem AfterR.trans {ok : Addr → Prop} {σ₁ : St} {as as₁ : List Addr} {s s₁ s₂ : Shared} {Q : Fl → St → List Addr → List (List D) → Prop} {f : Flow} (m : Mv G.base (fun a => Wr env σ a ∨ a ∈ as) s s₁) (o : ∀ a, (a ∈ owned σ₁ ∨ a ∈ as₁) → (a ∈ owned σ ∨ a ∈ as) ∨ s.heap.get? a = none) (a : AfterR G env σ₁ as₁ ok s₁ Q f s₂) : AfterR G env σ as ok s Q f s₂ := by
  obtain ⟨fl, σ', as', cs', q, fi, i, m', k, o'⟩ := a
  refine ⟨fl, σ', as', cs', q, fi, i, m.trans m' ?_, k, fun b hb => ?_⟩
  · rintro p ((h | h) | h)
    · exact .inl (.inl (.inl h))
    · rcases o p (.inl h) with (z | z) | z
      · exact .inl (.inl (.inr z))
      · exact .inl (.inr z)
      · exact .inr z
    · rcases o p (.inr h) with (z | z) | z
      · exact .inl (.inl (.inr z))
      · exact .inl (.inr z)
      · exact .inr z
  · rcases o' b hb with h | h
    · exact o b h
    · exact .inr (m.dom b h)
theorem ExR.nil {as : List Addr} {cs : List (List D)} {Q : Fl → St → List Addr → List (List D) → Prop} (h : Q .next σ as cs) : ExR G n env σ as cs [] Q := fun ok A s E r k i => wpAny_execs_nil ⟨.next, σ, as, cs, h, trivial, i, Stp.refl.mv, k, fun _ h => .inl h⟩
theorem ExR.cons {as : List Addr} {cs : List (List D)} {st : Stmt} {rest : List Stmt} {Q : Fl → St → List Addr → List (List D) → Prop} (h : ExR1 G n env σ as cs st fun fl σ' as' cs' => match fl with | .next => ExR G n env σ' as' cs' rest Q | fl => Q fl σ' as' cs') : ExR G n env σ as cs (st :: rest) Q := fun ok A s E r k i =>
  wpAny_execs_cons (wpAny_mono (h ok A s E r k i) (fun f s' a => by
    obtain ⟨fl, σ', as', cs', q, fi, i', m, k', o⟩ := a
    cases f <;> cases fl <;> first | exact fi.elim | skip
    · exact wpAny_mono (q ok A s' E r k' i') (fun _ _ a => a.trans m o) fun _ _ x => x
    · exact ⟨.brk, σ', as', cs', q, trivial, i', m, k', o⟩
    · exact ⟨.cont, σ', as', cs', q, trivial, i', m, k', o⟩
    · exact ⟨.ret _, σ', as', cs', q, fi, i', m, k', o⟩) fun _ _ x => x)
/-- a step of the frame leaves the open lists -/
theorem SpI.step {base : Heap} {ok : Addr → Prop} {as : List Addr} {cs : List (List D)} {σ' : St} {s s' : Shared} (i : SpI base ok env σ as cs s.heap) (i' : Inv base (fun b => ok b ∧ b ∉ as) env σ' s'.heap) (m : Mv base (Wr env σ) s s') (o : ∀ a ∈ owned σ', a ∈ owned σ ∨ s.heap.get? a = none) : SpI base ok env σ' as cs s'.heap := by
  have hno : ∀ a, (s.heap.get? a).isSome = true → a ∈ owned σ' → a ∈ owned σ := fun a hs w => (o a w).elim id fun z => by rw [z] at hs; cases hs
  refine ⟨i', i.sp.ext m.ext i.apart (fun a q nd w => ?_) (fun a q hs => ⟨q.1, fun w => q.2 (hno a hs w)⟩), i.nd, i.off, i.okA, fun a ha w => ?_⟩
  · rcases w with w | w
    · exact node_not_frame i.inv.frame nd w
    · exact q.2 w
  · rcases w with w | w
    · exact i.apart a ha (.inl w)
    · obtain ⟨vs, l⟩ := i.sp.some a ha
      exact i.apart a ha (.inr (hno a l.some w))
theorem ExR1.of {as : List Addr} {cs : List (List D)} {st : Stmt} {Q : Fl → St → List Addr → List (List D) → Prop} (h : Ex1 G n env σ st fun fl σ' => Q fl σ' as cs) : ExR1 G n env σ as cs st Q := fun ok A s E r k i =>
  wpAny_mono (h _ A s E r k i.inv) (fun f s' a => by
    obtain ⟨fl, σ', q, fi, i', m, k', o⟩ := a
    refine ⟨fl, σ', as, cs, q, ?_, i.step i' m o, m.weak fun a w => .inl w, k', fun a w => ?_⟩
    · cases f <;> cases fl <;> first | exact fi.elim | exact trivial | skip
      exact Rep.weak fi fun b q => q.1
    · rcases w with w | w
      · exact (o a w).imp .inl id
      · exact .inl (.inr w)) fun _ _ x => x
end
end Mine
end
section
open PySem PySem.W PyProof.Rows PySem.Calls
set_option maxRecDepth 100000
namespace Mine
/-- a value more in the innermost -/
def addLast : List (List D) → D → List (List D)
  | [], _ => []
  | [c], d => [c ++ [d]]
  | c :: c' :: cs, d => c :: addLast (c' :: cs) d
theorem addLast_snoc (cs : List (List D)) (c : List D) (d : D) : addLast (cs ++ [c]) d = cs ++ [c ++ [d]] := by
  induction cs with
  | nil => rfl
  | cons a r ih => cases r with
    | nil => rfl
    | cons b t => show a :: addLast (b :: t ++ [c]) d = _; rw [ih]; rfl
theorem Spine.length {ok : Addr → Prop} {h : Heap} {as : List Addr} {cs : List (List D)} (s : Spine ok h as cs) : as.length = cs.length ∧ as ≠ [] := by
  induction s with
  | last => exact ⟨rfl, by simp⟩
  | cons _ _ _ ih => exact ⟨by have := ih.1; simp at this ⊢; exact this, by simp⟩
/-- the innermost list takes a value -/
theorem Spine.append {ok : Addr → Prop} {base h h' : Heap} {as : List Addr} {cs : List (List D)} {a : Addr} {v : Value} {d : D} (s : Spine ok h as cs) (nd : as.Nodup) (ha : as.getLast? = .some a) (hok : ∀ b, ok b → b ∉ as) (hs : Heap.SameBut a h h') (hl : ∀ vs, OwnL h a vs → OwnL h' a (vs ++ [v])) (r : Rep ok h v d) : Spine ok h' as (addLast cs d) := by
  have x : ExtBut base (· = a) h h' := fun b o w e => ⟨o, (hs.2 b w).trans e, rfl, rfl, fun _ => rfl⟩
  have hmem : a ∈ as := List.mem_of_getLast? ha
  have hn : ∀ b, ok b → IsNode h b → ¬ b = a := fun b q _ e => hok b q (e ▸ hmem)
  have r' : Rep ok h' v d := r.extBut x hn fun _ q _ => q
  clear hmem
  induction s with
  | last l q => cases ha; exact .last (hl _ l) ((q.extBut x hn fun _ q _ => q).append (.cons r' .nil))
  | @cons a0 b as vs c cs l q sp ih =>
    rw [List.nodup_cons] at nd
    have ha' : (b :: as).getLast? = .some a := by rw [List.getLast?_cons_cons] at ha; exact ha
    have hne : a0 ≠ a := fun e => nd.1 (e ▸ List.mem_of_getLast? ha')
    have ih := ih nd.2 ha' (fun b q z => hok b q (.tail _ z))
    have : addLast (c :: cs) d = c :: addLast cs d := by cases sp <;> rfl
    rw [this]
    cases hsp : addLast cs d with
    | nil => rw [hsp] at ih; cases ih
    | cons e es =>
      rw [hsp] at ih
      exact .cons (x.own (fun e => hne e) l) (q.extBut x hn fun _ q _ => q) ih
/-- a new innermost list -/
theorem Spine.push {ok : Addr → Prop} {base h h' : Heap} {as : List Addr} {cs : List (List D)} {a g : Addr} (s : Spine ok h as cs) (nd : as.Nodup) (ha : as.getLast? = .some a) (hok : ∀ b, ok b → b ∉ as) (hs : Heap.SameBut a h h') (hl : ∀ vs, OwnL h a vs → OwnL h' a (vs ++ [.ref g])) (hg : OwnL h' g []) : Spine ok h' (as ++ [g]) (cs ++ [[]]) := by
  have x : ExtBut base (· = a) h h' := fun b o w e => ⟨o, (hs.2 b w).trans e, rfl, rfl, fun _ => rfl⟩
  have hmem : a ∈ as := List.mem_of_getLast? ha
  have hn : ∀ b, ok b → IsNode h b → ¬ b = a := fun b q _ e => hok b q (e ▸ hmem)
  clear hmem
  induction s with
  | last l q => cases ha; exact .cons (hl _ l) (q.extBut x hn fun _ q _ => q) (.last hg .nil)
  | @cons a0 b as vs c cs l q sp ih =>
    rw [List.nodup_cons] at nd
    have ha' : (b :: as).getLast? = .some a := by rw [List.getLast?_cons_cons] at ha; exact ha
    have hne : a0 ≠ a := fun e => nd.1 (e ▸ List.mem_of_getLast? ha')
    have ih := ih nd.2 ha' (fun b q z => hok b q (.tail _ z))
    exact .cons (x.own (fun e => hne e) l) (q.extBut x hn fun _ q _ => q) ih
/-- the innermost list is closed -/
theorem Spine.pop {ok ok' : Addr → Prop} {h : Heap} {as : List Addr} {cs : List (List D)} {a : Addr} {c c' : List D} (h1 : ∀ b, ok b → ok' b) (h2 : ok' a) : ∀ {as cs}, Spine ok h (as ++ [a]) (cs ++ [c, c']) → Spine ok' h as (cs ++ [c ++ [.list c']]) := by
  intro as
  induction as with
  | nil => intro cs s; have := s.length.1; simp at this
  | cons a0 r ih =>
    intro cs s
    cases r with
    | nil =>
      cases cs with
      | nil =>
        cases s with
        | cons l q sp => cases sp with
          | last l2 q2 => exact .last l ((q.weak h1).append (.cons (.list h2 l2.list (q2.weak h1)) .nil))
      | cons e es => have := s.length.1; simp at this
    | cons b t =>
      cases cs with
      | nil => have := s.length.1; simp at this
      | cons e es =>
        cases s with
        | cons l q sp =>
          have := ih sp
          cases hes : es ++ [c ++ [.list c']] with
          | nil => simp at hes
          | cons e1 e2 =>
            rw [List.cons_append, hes]
            rw [hes] at this
            exact .cons l (q.weak h1) this
end Mine
end
section
open PySem PySem.W PyProof.Rows PySem.Calls
set_option maxRecDepth 100000
namespace Mine
section
variable {G : Gr} {n : Nat} {env : Env} {σ : St}
theorem Inv.weaken {base : Heap} {ok ok' : Addr → Prop} {h : Heap} (i : Inv base ok env σ h) (hk : ∀ a, ok a → ok' a) : Inv base ok' env σ h :=
  ⟨i.frame, i.off, fun b e => hk b (i.fresh b e), fun y d q => let ⟨u, p, r⟩ := i.vals y d q; ⟨u, p, r.weak fun a z => ⟨hk a z.1, z.2⟩⟩, fun y b es q => let ⟨p, o, vs, l, r⟩ := i.owns y b es q; ⟨p, hk b o, vs, l, r.weak fun a z => ⟨hk a z.1, z.2⟩⟩, i.there, i.once⟩
/-- a list of the frame's own becomes one that is known by its place alone -/
theorem Inv.raw {base : Heap} {ok : Addr → Prop} {h : Heap} {x : Str} {a : Addr} {ds : List D} (i : Inv base ok env σ h) (l : σ.lookup x = some (.own a ds)) : Inv base (fun b => ok b ∧ b ≠ a) env (setS x (.val (.raw (.ref a))) σ) h ∧ a ∉ owned (setS x (.val (.raw (.ref a))) σ) := by
  have hna : a ∉ owned (setS x (.val (.raw (.ref a))) σ) := by
    have := notMem_setS_val (d := .raw (.ref a)) i.once l
    exact this
  have hm := owned_of_lookup l
  have up : ∀ b, okO ok σ b → okO (fun b => ok b ∧ b ≠ a) (setS x (.val (.raw (.ref a))) σ) b := fun b q => ⟨⟨q.1, fun e => q.2 (e ▸ hm)⟩, fun z => q.2 (owned_setS_val z)⟩
  refine ⟨⟨i.frame, fun b w => i.off b (w.imp id owned_setS_val), fun b e => ⟨i.fresh b e, fun q => ?_⟩, fun y d q => ?_, fun y b es q => ?_, fun b w => i.there b (owned_setS_val w), nodup_setS_val i.once⟩, hna⟩
  · obtain ⟨vs, lv⟩ := i.there a hm
    have := lv.some; rw [← q, e] at this; cases this
  · by_cases hy : y = x
    · subst hy
      rw [lookup_setS_self] at q; cases q
      obtain ⟨p, o, vs, lv, rs⟩ := i.owns y a ds l
      exact ⟨_, p, .raw _⟩
    · obtain ⟨u, p, r⟩ := i.vals y d (lookup_some_of_setS q hy)
      exact ⟨u, p, r.weak up⟩
  · by_cases hy : y = x
    · subst hy; rw [lookup_setS_self] at q; cases q
    · have q' := lookup_some_of_setS q hy
      obtain ⟨p, o, vs, lv, rs⟩ := i.owns y b es q'
      refine ⟨p, ⟨o, fun e => hna (by have := owned_of_lookup q; rw [e] at this; exact this)⟩, vs, lv, rs.weak up⟩
/-- from here on the list x and those in it are filled by their places -/
theorem Ex.open {x : Str} {a : Addr} {ds : List D} {body : List Stmt} {d : D} (l : σ.lookup x = some (.own a ds)) (h : ExR G n env (setS x (.val (.raw (.ref a))) σ) [a] [ds] body fun fl _ _ _ => fl = .ret d) : Ex G n env σ body fun fl _ => fl = .ret d := fun ok A s E r k i => by
  obtain ⟨i', hna⟩ := i.raw l
  obtain ⟨p, o, vs, lv, rs⟩ := i.owns x a ds l
  have hm := owned_of_lookup l
  have hi : SpI G.base ok env (setS x (.val (.raw (.ref a))) σ) [a] [ds] s.heap := by
    refine ⟨i'.weaken fun b q => ⟨q.1, by simpa using q.2⟩, .last lv (rs.weak fun b q => ⟨⟨q.1, ?_⟩, fun z => q.2 (owned_setS_val z)⟩), by simp, fun b hb => ?_, fun b hb => ?_, fun b hb w => ?_⟩
    · simp; exact fun e => q.2 (e ▸ hm)
    · rw [List.mem_singleton.mp hb]; exact i.off a (.inr hm)
    · rw [List.mem_singleton.mp hb]; exact o
    · rw [List.mem_singleton.mp hb] at w
      rcases w with w | w
      · exact node_not_frame i.frame (.list lv.list) w
      · exact hna w
  refine wpAny_mono (h ok A s E r k hi) (fun f s' q => ?_) fun _ _ x => x
  obtain ⟨fl, σ', as', cs', rfl, fi, i'', m, k', o'⟩ := q
  cases f <;> first | exact fi.elim | skip
  have m' : Mv G.base (Wr env σ) s s' := m.weak fun b w => by
    rcases w with w | w
    · exact w.imp id owned_setS_val
    · rw [List.mem_singleton.mp w]; exact .inr hm
  refine ⟨.ret d, σ', rfl, fi, i''.inv.weaken fun b q => q.1, m', k', fun b w => ?_⟩
  rcases o' b (.inl w) with (z | z) | z
  · exact .inl (owned_setS_val z)
  · rw [List.mem_singleton.mp z]; exact .inl hm
  · exact .inr z
end
end Mine
end
section
open PySem PySem.W PyProof.Rows PySem.Calls
set_option maxRecDepth 100000
namespace Mine
section
variable {G : Gr} {n : Nat} {env : Env} {σ : St} {as : List Addr} {cs : List (List D)}
theorem SpI.ext {base : Heap} {ok : Addr → Prop} {s s' : Shared} (i : SpI base ok env σ as cs s.heap) (st : Stp base s s') : SpI base ok env σ as cs s'.heap := i.step (i.inv.ext st.ext) st.mv fun a w => .inl w
/-- the innermost list is written: all else stands -/
theorem SpI.upd {base : Heap} {ok : Addr → Prop} {s : Shared} {h' : Heap} {a : Addr} (i : SpI base ok env σ as cs s.heap) (ha : a ∈ as) (hs : Heap.SameBut a s.heap h') (hl : ∃ vs, OwnL h' a vs) : Inv base (fun b => ok b ∧ b ∉ as) env σ h' ∧ Mv base (fun a => Wr env σ a ∨ a ∈ as) s { s with heap := h' } := by
  obtain ⟨vs, lv⟩ := hl
  have dom : ∀ b, h'.get? b = none → s.heap.get? b = none := fun b e => by
    by_cases hb : b = a
    · have := lv.some; rw [← hb, e] at this; cases this
    · rw [← hs.2 b hb]; exact e
  refine ⟨i.inv.butW (W := (· = a)) (sameBut_ext hs) (fun b e => i.inv.fresh b (dom b e)) (fun b e => e ▸ i.apart a ha) (fun b e q _ => q.1.2 (e ▸ ha)), ⟨fun b o w e => ?_, dom, rfl, .refl⟩⟩
  exact sameBut_ext hs b o (fun q => w (.inr (q ▸ ha))) e
theorem ExR1.appendAt {o e : Expr} {p2 p3 pos : Pos} {a : Addr} {d : D} (ho : Ev G n env σ o (.raw (.ref a))) (h : Ev G n env σ e d) (ha : as.getLast? = some a) (hz : ∀ c ∈ cs, c.length < 2 ^ 22) (he1 : starEach [e] env = [(false, eval e env)] := by rfl)
    (hs : swapsWith (.Call (.Attribute o "append" p2) [e] [] p3) none pos.line env = pure false := by rfl)
    {pl : Sem Bool} (he : eval (.Call (.Attribute o "append" p2) [e] [] p3) env = (do
      let ov ← eval o env
      standAt p2.atName
      let (f, first) ← holding [ov] (getMethod ov "append" pl)
      callWith p3 f first (backTo p3 (starEach [e] env)) []) := by rfl) :
    ExR1 G n env σ as cs (.Expr (.Call (.Attribute o "append" p2) [e] [] p3) pos) fun fl σ' as' cs' => fl = .next ∧ σ' = σ ∧ as' = as ∧ cs' = addLast cs d := fun ok A s E r k i => by
  have hm : a ∈ as := List.mem_of_getLast? ha
  refine wpAny_Expr (MethodCall_ (pl := pl) (wpAny_mono (ho _ A s _ r k i.inv) (fun v s₁ p₁ => ?_) fun _ _ x => x) he) (by unfold interactive; rw [i.inv.frame.kind]; rfl) hs
  obtain ⟨st, rp⟩ := p₁
  cases rp
  have i₁ := i.ext st
  obtain ⟨vs, m, hl⟩ := i₁.sp.some a hm
  refine getMethod_list_append hl rfl rfl ?_
  refine callWith_callee (.builtin _) (by rw [he1]; rfl) (G := G) ?_ (by cases e <;> first | rfl | cases he1)
  refine PyProof.Rows.args_cons (wpAny_mono (h _ A s₁ _ r (st.ext.base k) i₁.inv) (fun v s₂ p₂ => PyProof.Rows.args_nil ?_) fun _ _ x => x) he1
  obtain ⟨st₂, rv⟩ := p₂
  have st12 := st.trans st₂
  have i₂ := i₁.ext st₂
  refine ⟨st12.ext.base k, ?_⟩
  obtain ⟨m₂, hl₂⟩ := st₂.ext.own ⟨m, hl⟩
  refine append_at (hsz := ?hsz) hl₂ fun h' hs' hl' => ?main
  case main =>
    have hown : ∀ us, OwnL s₂.heap a us → OwnL h' a (us ++ [v]) := fun us lu => by
      obtain ⟨n1, e1⟩ := lu
      rw [hl₂] at e1
      cases e1
      exact ⟨m₂ + 1, by rw [hl']; simp⟩
    obtain ⟨i', mv⟩ := i₂.upd hm hs' ⟨_, hown vs ⟨m₂, hl₂⟩⟩
    have mv' := (st12.mv (W := fun a => Wr env σ a ∨ a ∈ as)).trans mv fun b w => .inl w
    have k' := mv'.base k fun b w => w.elim (i.inv.off b) (i.off b)
    have sp' : Spine (okO (fun b => ok b ∧ b ∉ as) σ) h' as (addLast cs d) := i₂.sp.append (base := G.base) i₂.nd ha (fun b q => q.1.2) hs' hown rv
    exact ⟨.next, σ, as, _, ⟨rfl, rfl, rfl, rfl⟩, trivial, ⟨i', sp', i.nd, i.off, i.okA, i.apart⟩, mv', k', fun b w => .inl w⟩
  case hsz =>
    -- the list's length, by the spine
    have key : ∀ {okS : Addr → Prop} {hh : Heap} {as : List Addr} {cs : List (List D)}, Spine okS hh as cs → as.getLast? = some a → (∀ c ∈ cs, c.length < 2 ^ 22) → ∀ vs, OwnL hh a vs → vs.length < 2 ^ 22 := by
      intro okS hh as cs sp
      induction sp with
      | @last a0 us c0 l q =>
        intro e hc vs' l'
        have e' : a0 = a := by simpa using e
        rw [← e'] at l'
        obtain ⟨n1, e1⟩ := l
        obtain ⟨n2, e2⟩ := l'
        rw [e1] at e2
        have e3 : us.toArray = vs'.toArray := by
          have := Option.some.inj e2
          simp only [W.listOf, Obj.mk.injEq, Data.seq.injEq] at this
          exact this.2.2.1.1
        have e4 : us = vs' := by simpa using e3
        rw [← e4, q.length]; exact hc _ (.head _)
      | cons l q sp ih =>
        intro e hc vs' l'
        rw [List.getLast?_cons_cons] at e
        exact ih e (fun c hcm => hc c (.tail _ hcm)) vs' l'
    have := key i₂.sp ha hz vs ⟨m₂, hl₂⟩
    rw [List.size_toArray]; unfold sizeLine; omega
end
end Mine
end
section
open PySem PySem.W PyProof.Rows PySem.Calls
set_option maxRecDepth 100000
namespace Mine
section
variable {G : Gr} {n : Nat} {env : Env} {σ : St} {as : List Addr} {cs : List (List D)}
theorem AfterR.mono {ok : Addr → Prop} {s s' : Shared} {Q Q' : Fl → St → List Addr → List (List D) → Prop} {f : Flow} (a : AfterR G env σ as ok s Q f s') (h : ∀ fl σ' as' cs', Q fl σ' as' cs' → Q' fl σ' as' cs') : AfterR G env σ as ok s Q' f s' := by
  obtain ⟨fl, σ', as', cs', q, r⟩ := a
  exact ⟨fl, σ', as', cs', h _ _ _ _ q, r⟩
theorem ExR1.mono {st : Stmt} {Q Q' : Fl → St → List Addr → List (List D) → Prop} (a : ExR1 G n env σ as cs st Q) (h : ∀ fl σ' as' cs', Q fl σ' as' cs' → Q' fl σ' as' cs') : ExR1 G n env σ as cs st Q' := fun ok A s E r k i => wpAny_mono (a ok A s E r k i) (fun _ _ p => p.mono h) fun _ _ x => x
theorem ExR.step {st : Stmt} {rest : List Stmt} {Q : Fl → St → List Addr → List (List D) → Prop} {P : St → List Addr → List (List D) → Prop} (h : ExR1 G n env σ as cs st fun fl σ' as' cs' => fl = .next ∧ P σ' as' cs') (hr : ∀ σ' as' cs', P σ' as' cs' → ExR G n env σ' as' cs' rest Q) : ExR G n env σ as cs (st :: rest) Q :=
  .cons (h.mono fun fl σ' as' cs' p => by obtain ⟨rfl, p⟩ := p; exact hr σ' as' cs' p)
theorem ExR.one {st : Stmt} {rest : List Stmt} {Q : Fl → St → List Addr → List (List D) → Prop} {σ' : St} {as' : List Addr} {cs' : List (List D)} (h : ExR1 G n env σ as cs st fun fl σ'' as'' cs'' => fl = .next ∧ σ'' = σ' ∧ as'' = as' ∧ cs'' = cs') (hr : ExR G n env σ' as' cs' rest Q) : ExR G n env σ as cs (st :: rest) Q :=
  .step h fun _ _ _ e => by obtain ⟨rfl, rfl, rfl⟩ := e; exact hr
theorem ExR.oneP {st : Stmt} {rest : List Stmt} {Q : Fl → St → List Addr → List (List D) → Prop} {σ' : St} (h : Ex1 G n env σ st fun fl σ'' => fl = .next ∧ σ'' = σ') (hr : ExR G n env σ' as cs rest Q) : ExR G n env σ as cs (st :: rest) Q :=
  .one (.of (h.mono fun fl σ'' p => ⟨p.1, p.2, rfl, rfl⟩)) hr
theorem ExR1.ite {t : Expr} {a b : List Stmt} {pos : Pos} {c : Bool} {Q : Fl → St → List Addr → List (List D) → Prop} (h : Tr G n env σ t c) (ha : c = true → ExR G n env σ as cs a Q) (hb : c = false → ExR G n env σ as cs b Q) : ExR1 G n env σ as cs (.If t a b pos) Q := fun ok A s E r k i =>
  wpAny_If (wpAny_mono (h _ A s E r k i.inv) (fun c' s₁ p₁ => by
    obtain ⟨st, rfl⟩ := p₁
    have go : ∀ body, ExR G n env σ as cs body Q → wpAny G.M A (execs body env) (AfterR G env σ as ok s Q) E s₁ := fun body hq =>
      wpAny_mono (hq ok A s₁ E r (st.ext.base k) (i.ext st)) (fun _ _ a => a.trans st.mv (fun _ w => .inl w)) fun _ _ x => x
    cases c' with
    | true => exact go _ (ha rfl)
    | false => exact go _ (hb rfl)) fun _ _ x => x)
/-- the innermost list is done -/
theorem ExR.close {a : Addr} {c c' : List D} {body : List Stmt} {Q : Fl → St → List Addr → List (List D) → Prop} (h : ExR G n env σ as (cs ++ [c ++ [.list c']]) body Q) : ExR G n env σ (as ++ [a]) (cs ++ [c, c']) body Q := fun ok A s E r k i => by
  have nd := i.nd
  rw [List.nodup_append] at nd
  have hna : a ∉ as := fun z => nd.2.2 a z a (by simp) rfl
  have hap := i.apart a (by simp)
  have i' : SpI G.base ok env σ as (cs ++ [c ++ [.list c']]) s.heap :=
    ⟨i.inv.weaken (fun b q => ⟨q.1, fun z => q.2 (by simp [z])⟩), Spine.pop (as := as) (cs := cs) (a := a) (fun b q => ⟨⟨q.1.1, fun z => q.1.2 (by simp [z])⟩, q.2⟩) ⟨⟨i.okA a (by simp), hna⟩, fun z => hap (.inr z)⟩ i.sp, nd.1,
      fun b hb => i.off b (by simp [hb]), fun b hb => i.okA b (by simp [hb]), fun b hb => i.apart b (by simp [hb])⟩
  refine wpAny_mono (h ok A s E r k i') (fun f s' q => ?_) fun _ _ x => x
  obtain ⟨fl, σ', as', cs', q, fi, i'', m, k', o⟩ := q
  exact ⟨fl, σ', as', cs', q, fi, i'', m.weak fun b w => w.imp id fun z => by simp [z], k', fun b w => (o b w).imp (fun z => z.imp id fun z => by simp [z]) id⟩
theorem Spine.weak {ok ok' : Addr → Prop} {h : Heap} (s : Spine ok h as cs) (hk : ∀ a, ok a → ok' a) : Spine ok' h as cs := by
  induction s with
  | last l r => exact .last l (r.weak hk)
  | cons l r _ ih => exact .cons l (r.weak hk) ih
theorem Spine.short {ok : Addr → Prop} {h : Heap} {a : Addr} {m : Nat} (sp : Spine ok h as cs) (ha : as.getLast? = Option.some a) (hc : ∀ c ∈ cs, c.length < m) : ∀ vs, OwnL h a vs → vs.length < m := by
  induction sp with
  | @last a0 us c0 l q =>
    intro vs' l'
    have e' : a0 = a := by simpa using ha
    rw [← e'] at l'
    obtain ⟨n1, e1⟩ := l
    obtain ⟨n2, e2⟩ := l'
    rw [e1] at e2
    have e3 : us.toArray = vs'.toArray := by
      have := Option.some.inj e2
      simp only [W.listOf, Obj.mk.injEq, Data.seq.injEq] at this
      exact this.2.2.1.1
    have e4 : us = vs' := by simpa using e3
    rw [← e4, q.length]; exact hc _ (.head _)
  | cons l q sp ih =>
    intro vs' l'
    rw [List.getLast?_cons_cons] at ha
    exact ih ha (fun c hcm => hc c (.tail _ hcm)) vs' l'
/-- a new list becomes the last item of the innermost -/
theorem ExR1.pushAt {o : Expr} {x : Str} {p1 p2 p3 pos : Pos} {a g : Addr} (ho : Ev G n env σ o (.raw (.ref a))) (l : σ.lookup x = some (.own g [])) (ha : as.getLast? = some a) (hz : ∀ c ∈ cs, c.length < 2 ^ 22)
    (hs : swapsWith (.Call (.Attribute o "append" p2) [.Name x p1] [] p3) none pos.line env = pure false := by rfl)
    (hd : (x == ("__debug__" : Str)) = false := by decide) (hc : (x == ("__classdict__" : Str)) = false := by decide)
    {pl : Sem Bool} (he : eval (.Call (.Attribute o "append" p2) [.Name x p1] [] p3) env = (do
      let ov ← eval o env
      standAt p2.atName
      let (f, first) ← holding [ov] (getMethod ov "append" pl)
      callWith p3 f first (backTo p3 (starEach [.Name x p1] env)) []) := by rfl) :
    ExR1 G n env σ as cs (.Expr (.Call (.Attribute o "append" p2) [.Name x p1] [] p3) pos) fun fl σ' as' cs' => fl = .next ∧ σ' = setS x (.val (.raw (.ref g))) σ ∧ as' = as ++ [g] ∧ cs' = cs ++ [[]] := fun ok A s E r k i => by
  have hm : a ∈ as := List.mem_of_getLast? ha
  refine wpAny_Expr (MethodCall_ (pl := pl) (wpAny_mono (ho _ A s _ r k i.inv) (fun v s₁ p₁ => ?_) fun _ _ x => x) he) (by unfold interactive; rw [i.inv.frame.kind]; rfl) hs
  obtain ⟨st, rp⟩ := p₁
  cases rp
  have i₁ := i.ext st
  obtain ⟨vs, m, hl⟩ := i₁.sp.some a hm
  refine getMethod_list_append hl rfl rfl ?_
  refine callWith_callee (.builtin _) rfl (G := G) ?_ rfl
  obtain ⟨q, og, ws, lw, rw'⟩ := i₁.inv.owns x g [] l
  refine PyProof.Rows.args_cons (wpAny_holds i₁.inv.frame.kind q (PyProof.Rows.args_nil ?_) hd hc) rfl
  refine ⟨st.ext.base k, ?_⟩
  have hsz := i₁.sp.short ha hz vs ⟨m, hl⟩
  refine append_at (hsz := by rw [List.size_toArray]; unfold sizeLine; omega) hl fun h' hs' hl' => ?_
  have hown : ∀ us, OwnL s₁.heap a us → OwnL h' a (us ++ [.ref g]) := fun us lu => by
    obtain ⟨n1, e1⟩ := lu
    rw [hl] at e1
    cases e1
    exact ⟨m + 1, by rw [hl']; simp⟩
  obtain ⟨i', mv⟩ := i₁.upd hm hs' ⟨_, hown vs ⟨m, hl⟩⟩
  have hgo : g ∈ owned σ := owned_of_lookup l
  have hga : g ∉ as := fun z => i.apart g z (.inr hgo)
  have hne : g ≠ a := fun e => hga (e ▸ hm)
  have hgl : OwnL h' g [] := by
    cases rw' with
    | nil =>
      obtain ⟨n1, e1⟩ := lw
      exact ⟨n1, by rw [hs'.2 g hne]; exact e1⟩
  obtain ⟨i'', hno⟩ := i'.raw l
  have mv' := (st.mv (W := fun a => Wr env σ a ∨ a ∈ as)).trans mv fun b w => .inl w
  have k' := mv'.base k fun b w => w.elim (i.inv.off b) (i.off b)
  have sp0 : Spine (okO (fun b => ok b ∧ b ∉ as ++ [g]) (setS x (.val (.raw (.ref g))) σ)) s₁.heap as cs := i₁.sp.weak fun b q => ⟨⟨q.1.1, fun z => by
    rcases List.mem_append.mp z with z | z
    · exact q.1.2 z
    · rw [List.mem_singleton.mp z] at q; exact q.2 hgo⟩, fun z => q.2 (owned_setS_val z)⟩
  have sp' := sp0.push (base := G.base) i.nd ha (fun b q z => q.1.2 (by simp [z])) hs' hown hgl
  refine ⟨.next, _, _, _, ⟨rfl, rfl, rfl, rfl⟩, trivial, ⟨i''.weaken fun b q => ⟨q.1.1, fun z => ?_⟩, sp', ?_, fun b hb => ?_, fun b hb => ?_, fun b hb w => ?_⟩, mv', k', fun b w => ?_⟩
  · rcases List.mem_append.mp z with z | z
    · exact q.1.2 z
    · exact q.2 (List.mem_singleton.mp z)
  · rw [List.nodup_append]
    exact ⟨i.nd, by simp, fun p hp q hq e => hga (by rw [List.mem_singleton.mp hq] at e; exact e ▸ hp)⟩
  · rcases List.mem_append.mp hb with z | z
    · exact i.off b z
    · rw [List.mem_singleton.mp z]; exact i.inv.off g (.inr hgo)
  · rcases List.mem_append.mp hb with z | z
    · exact i.okA b z
    · rw [List.mem_singleton.mp z]; exact og.1
  · rcases List.mem_append.mp hb with z | z
    · exact i.apart b z (w.imp id owned_setS_val)
    · rw [List.mem_singleton.mp z] at w
      rcases w with w | w
      · exact node_not_frame i'.frame (.list hgl.list) w
      · exact hno w
  · rcases w with w | w
    · exact .inl (.inl (owned_setS_val w))
    · rcases List.mem_append.mp w with z | z
      · exact .inl (.inr z)
      · rw [List.mem_singleton.mp z]; exact .inl (.inl hgo)
/-- the outermost list goes back -/
theorem ExR1.retRoot {e : Expr} {pos : Pos} {a : Addr} {Q : Fl → St → List Addr → List (List D) → Prop} (h : Ev G n env σ e (.raw (.ref a))) (ha : as.head? = some a) (q : Q (.ret (.list (closeD cs))) σ as cs) : ExR1 G n env σ as cs (.Return (some e) pos) Q := fun ok A s E r k i =>
  wpAny_Return_some (wpAny_mono (h _ A s E r k i.inv) (fun v s₁ p₁ => by
    obtain ⟨st, rp⟩ := p₁
    cases rp
    have i₁ := i.ext st
    exact ⟨_, σ, as, cs, q, i₁.sp.rep (fun b q => q.1.1) i₁.okA a ha, i₁, st.mv, st.ext.base k, fun _ w => .inl w⟩) fun _ _ x => x)
theorem ExR.only {σ₀ : St} {body : List Stmt} {Q : Fl → St → List Addr → List (List D) → Prop} (hs : Sub σ₀ σ) (h : ExR G n env σ₀ as cs body Q) (hn : (σ₀.map (·.1)).Nodup := by simp; try decide) : ExR G n env σ as cs body Q := fun ok A s E r k i => by
  have i' : SpI G.base ok env σ₀ as cs s.heap := ⟨i.inv.sub hs (Sub.nodup i.inv.once hn hs), i.sp.weak fun b q => ⟨q.1, fun z => q.2 (hs.owned b z)⟩, i.nd, i.off, i.okA, fun a ha w => i.apart a ha (w.imp id (hs.owned a))⟩
  refine wpAny_mono (h ok A s E r k i') (fun f s' q => ?_) fun _ _ x => x
  obtain ⟨fl, σ', as', cs', q, fi, i'', m, k', o⟩ := q
  exact ⟨fl, σ', as', cs', q, fi, i'', m.weak fun b w => w.imp (fun z => z.imp id (hs.owned b)) id, k', fun b w => (o b w).imp (fun z => z.imp (hs.owned b) id) id⟩
/-- x.pop() of a list of the frame's own, what goes is dropped -/
theorem Ex1.popAny {x : Str} {p1 p2 p3 pos : Pos} {a : Addr} {ds : List D} {d : D} (l : σ.lookup x = some (.own a (ds ++ [d]))) (hz : ds.length < 2 ^ 23)
    (hd : (x == ("__debug__" : Str)) = false := by decide) (hc : (x == ("__classdict__" : Str)) = false := by decide)
    (hs : swapsWith (.Call (.Attribute (.Name x p1) "pop" p2) [] [] p3) none pos.line env = pure false := by rfl)
    {pl : Sem Bool} (he : eval (.Call (.Attribute (.Name x p1) "pop" p2) [] [] p3) env = (do
      let ov ← eval (.Name x p1) env
      standAt p2.atName
      let (f, first) ← holding [ov] (getMethod ov "pop" pl)
      callWith p3 f first (backTo p3 (starEach [] env)) []) := by rfl) :
    Ex1 G n env σ (.Expr (.Call (.Attribute (.Name x p1) "pop" p2) [] [] p3) pos) fun fl σ' => fl = .next ∧ σ' = setS x (.own a ds) σ := fun ok A s E r k i => by
  obtain ⟨q, o, vs, ⟨m, hm⟩, rs⟩ := i.owns x a _ l
  refine wpAny_Expr_any (MethodCall_ (pl := pl) (wpAny_holds i.frame.kind q ?_ hd hc) he) (by unfold interactive; rw [i.frame.kind]; rfl) hs
  refine getMethod_builtin (T := "list") ⟨_, hm, rfl⟩ F.plainAttrs_list F.slot_list_pop F.type_list_pop (fun b e => by cases e; exact ⟨_, hm, rfl⟩) ?_
  have hlen := rs.length
  obtain ⟨ws, w, rfl⟩ : ∃ ws w, vs = ws ++ [w] := by
    have hne : vs ≠ [] := fun e => by rw [e] at hlen; simp at hlen
    exact ⟨vs.dropLast, vs.getLast hne, (List.dropLast_concat_getLast hne).symm⟩
  have hwl : ws.length = ds.length := by simpa using hlen
  have hw : (ws ++ [w]).toArray[(ws ++ [w]).toArray.size - 1]? = some w := by simp
  refine P.pop_list (n := m) hm hw ?_ (by rw [List.size_toArray]; simp; unfold sizeLine; omega)
  have hh : ∀ {ws : List Value} {ds : List D}, ws.length = ds.length → RepAll (okO ok σ) s.heap (ws ++ [w]) (ds ++ [d]) → RepAll (okO ok σ) s.heap ws ds := by
    intro ws
    induction ws with
    | nil =>
      intro ds h0 r
      cases ds with
      | nil => exact .nil
      | cons _ _ => cases h0
    | cons v t ih =>
      intro ds h0 r
      cases ds with
      | nil => cases h0
      | cons e es =>
        cases r with
        | cons a b => exact .cons a (ih (by simpa using h0) b)
  have r1 := hh hwl rs
  have q2 := PySem.IsL.update hm (fun xs => xs.eraseIdxIfInBounds ((ws ++ [w]).toArray.size - 1))
  have e1 : (ws ++ [w]).toArray.eraseIdxIfInBounds ((ws ++ [w]).toArray.size - 1) = ws.toArray := by
    have hk : (ws ++ [w]).toArray.size - 1 = ws.length := by simp
    rw [hk, kl_erase, List.append_nil]
  obtain ⟨i', m'⟩ := i.upd l (Heap.SameBut.update ..) ⟨m + 1, q2.trans (by rw [e1]; simp)⟩ r1
  have mv := m' s.toks
  exact ⟨.next, _, ⟨rfl, rfl⟩, trivial, i', mv, mv.base k i.off, fun b w => .inl (owned_setS_same (es := ds) l ▸ w)⟩
end
end Mine
end
section
open PySem PySem.W PyProof.Rows PySem.Calls
set_option maxRecDepth 100000
namespace Mine
section
variable {G : Gr} {n : Nat} {env : Env} {σ : St} {as : List Addr} {cs : List (List D)}
theorem SpI.mvI {base : Heap} {ok : Addr → Prop} {I : Addr} {wg : Nat → Prop} {s s' : Shared} (i : SpI base ok env σ as cs s.heap) (m : MvI base (· = I) wg s s') (hw : ¬ Wr env σ I) (ha : I ∉ as) (hn : ¬ IsNode s.heap I) (hk : ok I) : SpI base ok env σ as cs s'.heap :=
  ⟨i.inv.mvI m (fun a e => e ▸ hw) (fun a e => e ▸ hn) (fun b e => e ▸ ⟨hk, ha⟩), i.sp.ext m.ext (fun a h e => ha (e ▸ h)) (fun a _ nd e => hn (e ▸ nd)) (fun a q _ => q), i.nd, i.off, i.okA, i.apart⟩
/-- for over a list or a row while lists are open -/
theorem ExR1.for {target iter : Expr} {body : List Stmt} {pos : Pos} {dv : D} {ds : List D} {f : D → St → St} {Q : Fl → St → List Addr → List (List D) → Prop} (hi : Ev G n env σ iter dv) (hdv : IterD G n dv ds) (ht : ∀ d ∈ ds, AssD G n env target d (f d))
    (J : Nat → St → List Addr → List (List D) → Prop) (h0 : J 0 σ as cs)
    (turn : ∀ i d σ₁ as₁ cs₁, ds[i]? = some d → J i σ₁ as₁ cs₁ → ExR G n env (f d σ₁) as₁ cs₁ body fun fl σ₂ as₂ cs₂ => match fl with
      | .next | .cont => J (i + 1) σ₂ as₂ cs₂
      | .brk => Q .next σ₂ as₂ cs₂
      | .ret r => Q (.ret r) σ₂ as₂ cs₂)
    (done : ∀ σ₁ as₁ cs₁, J ds.length σ₁ as₁ cs₁ → Q .next σ₁ as₁ cs₁) (hs : ∀ x, foldedSetIterable iter env x = pure x := by intro _; rfl) : ExR1 G n env σ as cs (.For target iter body [] pos) Q := fun ok A s E r k i => by
  refine wpAny_For (wpAny_mono (hi _ A s E r k i.inv) (fun x s₁ p₁ => wpAny_mono (hdv _ A s₁ E x target r (p₁.1.ext.base k) (i.inv.ext p₁.1.ext).freshO p₁.2) (fun it s₂ p₂ => ?_) fun _ _ x => x) fun _ _ x => x) hs
  obtain ⟨st2, I, Sx, rfl, hI1, hI2, W, hst⟩ := p₂
  have st := p₁.1.trans st2
  have hI0 : s.heap.get? I = none := p₁.1.ext.none hI1
  have hIn : ∀ {a}, (s.heap.get? a).isSome = true → a ≠ I := fun h e => by rw [e, hI0] at h; cases h
  have i₂ := i.ext st
  have hIok : ok I := (i.inv.fresh I hI0).1
  have hIas : I ∉ as := fun z => by obtain ⟨vs, l⟩ := i.sp.some I z; exact hIn l.some rfl
  have hIwr : ¬ Wr env σ I := fresh_not_wr i.inv hI0
  refine codeAny_forLoop_any (fun m s' => ∃ j σ₁ as₁ cs₁, j ≤ ds.length ∧ m = ds.length + 1 - j ∧ J j σ₁ as₁ cs₁ ∧ Sx j s' ∧ SpI G.base ok env σ₁ as₁ cs₁ s'.heap ∧ Mv G.base (fun a => Wr env σ a ∨ a ∈ as) s s' ∧ G.base.StaysIn s'.heap ∧
    (∀ a, (a ∈ owned σ₁ ∨ a ∈ as₁) → (a ∈ owned σ ∨ a ∈ as) ∨ s₂.heap.get? a = none) ∧ ∀ b, b ≠ I → s'.heap.get? b = none → s₂.heap.get? b = none) ?_ (ds.length + 1) ⟨0, σ, as, cs, Nat.zero_le _, by omega, h0, hst, i₂, st.mv, st.ext.base k, fun a w => .inl w, fun _ _ e => e⟩
  rintro m s' ⟨j, σ₁, as₁, cs₁, hj, rfl, hJ, hSx, hinv, hmv, hk, how, hdom⟩
  have hIw1 : ¬ (Wr env σ₁ I ∨ I ∈ as₁) := fun w => by
    rcases w with (w | w) | w
    · exact hIwr (.inl w)
    · rcases how I (.inl w) with (w | w) | w
      · exact hIwr (.inr w)
      · exact hIas w
      · rw [w] at hI2; cases hI2
    · rcases how I (.inr w) with (w | w) | w
      · exact hIwr (.inr w)
      · exact hIas w
      · rw [w] at hI2; cases hI2
  have hok1 : ∀ a, (okO (fun b => ok b ∧ b ∉ as) σ a ∧ (s₂.heap.get? a).isSome = true) → okO (fun b => ok b ∧ b ∉ as₁) σ₁ a := fun a q => by
    have q2 := q.2
    refine ⟨⟨q.1.1.1, fun w => ?_⟩, fun w => ?_⟩
    · rcases how a (.inr w) with (z | z) | z
      · exact q.1.2 z
      · exact q.1.1.2 z
      · rw [z] at q2; cases q2
    · rcases how a (.inl w) with (z | z) | z
      · exact q.1.2 z
      · exact q.1.1.2 z
      · rw [z] at q2; cases q2
  by_cases hlt : j < ds.length
  · have hd : ds[j]? = some ds[j] := List.getElem?_eq_getElem hlt
    refine wpAny_mono (W.item j ds[j] s' _ (okO (fun b => ok b ∧ b ∉ as₁) σ₁) hd hSx hk hok1 hinv.inv.freshO) (fun r' s₃ q => ?_) fun _ _ x => x
    obtain ⟨v, rfl, q⟩ := q
    refine wpAny_mono q (fun _ s₄ q => ?_) fun _ _ x => x
    obtain ⟨rp, hSx', mi⟩ := q
    have inv₄ := hinv.mvI mi (fun w => hIw1 (.inl w)) (fun w => hIw1 (.inr w)) (W.node j s' I hSx rfl).1 hIok
    have mv₄ := MvI.after hmv mi (fun a w => w ▸ hI0) (fun g w => w.elim)
    have hk₄ := mv₄.base k fun b w => w.elim (i.inv.off b) (i.off b)
    refine wpAny_mono (ht ds[j] (List.getElem_mem hlt) σ₁ _ A s₄ _ v r hk₄ inv₄.inv rp) (fun _ s₅ q => ?_) fun _ _ x => x
    obtain ⟨inv₅', mv₅, ow₅⟩ := q
    have inv₅ := inv₄.step inv₅' mv₅ fun a w => .inl (ow₅ a w)
    have mv₅' : Mv G.base (fun a => Wr env σ a ∨ a ∈ as) s s₅ := mv₄.trans mv₅ fun a w => by
      rcases w with w | w
      · exact .inl (.inl (.inl w))
      · rcases how a (.inl w) with (z | z) | z
        · exact .inl (.inl (.inr z))
        · exact .inl (.inr z)
        · exact .inr (st.ext.none z)
    have hk₅ := mv₅'.base k fun b w => w.elim (i.inv.off b) (i.off b)
    have hSx₅ : Sx (j + 1) s₅ := W.frame (j + 1) s₄ s₅ _ hSx' mv₅ (fun a q w => hIw1 (.inl (q ▸ w))) fun a q nd w => by
      rcases w with w | w
      · exact node_not_frame inv₄.inv.frame nd w
      · exact (hok1 a q).2 w
    refine wpAny_mono (turn j ds[j] σ₁ as₁ cs₁ hd hJ ok A s₅ _ r hk₅ inv₅) (fun fl s₆ q => ?_) fun _ _ x => x
    obtain ⟨fl', σ₂, as₂, cs₂, q, fi, inv₆, mv₆, hk₆, ow₆⟩ := q
    have mv₆' : Mv G.base (fun a => Wr env σ a ∨ a ∈ as) s s₆ := mv₅'.trans mv₆ fun a w => by
      rcases w with (w | w) | w
      · exact .inl (.inl (.inl w))
      · rcases how a (.inl (ow₅ a w)) with (z | z) | z
        · exact .inl (.inl (.inr z))
        · exact .inl (.inr z)
        · exact .inr (st.ext.none z)
      · rcases how a (.inr w) with (z | z) | z
        · exact .inl (.inl (.inr z))
        · exact .inl (.inr z)
        · exact .inr (st.ext.none z)
    have dom₅ : ∀ b, b ≠ I → s₅.heap.get? b = none → s₂.heap.get? b = none := fun b nz e => hdom b nz (mi.dom b nz (mv₅.dom b e))
    have how₆ : ∀ a, (a ∈ owned σ₂ ∨ a ∈ as₂) → (a ∈ owned σ ∨ a ∈ as) ∨ s₂.heap.get? a = none := fun a w => by
      rcases ow₆ a w with (w | w) | w
      · exact how a (.inl (ow₅ a w))
      · exact how a (.inr w)
      · exact .inr (dom₅ a (fun z => by have := (W.node _ _ a hSx₅ z).2; rw [w] at this; cases this) w)
    have how₆' : ∀ a, (a ∈ owned σ₂ ∨ a ∈ as₂) → (a ∈ owned σ ∨ a ∈ as) ∨ s.heap.get? a = none := fun a w => (how₆ a w).imp id fun z => st.ext.none z
    have go : J (j + 1) σ₂ as₂ cs₂ → ∃ m, m < ds.length + 1 - j ∧ ∃ j' σ₁ as₁ cs₁, j' ≤ ds.length ∧ m = ds.length + 1 - j' ∧ J j' σ₁ as₁ cs₁ ∧ Sx j' s₆ ∧ SpI G.base ok env σ₁ as₁ cs₁ s₆.heap ∧ Mv G.base (fun a => Wr env σ a ∨ a ∈ as) s s₆ ∧ G.base.StaysIn s₆.heap ∧
        (∀ a, (a ∈ owned σ₁ ∨ a ∈ as₁) → (a ∈ owned σ ∨ a ∈ as) ∨ s₂.heap.get? a = none) ∧ ∀ b, b ≠ I → s₆.heap.get? b = none → s₂.heap.get? b = none := fun hq =>
      ⟨ds.length + 1 - (j + 1), by omega, j + 1, σ₂, as₂, cs₂, hlt, rfl, hq, W.frame (j + 1) s₅ s₆ _ hSx₅ mv₆ (fun a q w => by
          subst q
          rcases w with (w | w) | w
          · exact hIw1 (.inl (.inl w))
          · exact hIw1 (.inl (.inr (ow₅ a w)))
          · exact hIw1 (.inr w)) (fun a q nd w => by
          rcases w with (w | w) | w
          · exact node_not_frame inv₅.inv.frame nd w
          · exact (hok1 a q).2 (ow₅ a w)
          · exact (hok1 a q).1.2 w), inv₆, mv₆', hk₆, how₆, fun b nz e => dom₅ b nz (mv₆.dom b e)⟩
    cases fl <;> cases fl' <;> first | exact fi.elim | skip
    · exact go q
    · exact ⟨.next, σ₂, as₂, cs₂, q, trivial, inv₆, mv₆', hk₆, how₆'⟩
    · exact go q
    · exact ⟨.ret _, σ₂, as₂, cs₂, q, fi, inv₆, mv₆', hk₆, how₆'⟩
  · have hjl : j = ds.length := by omega
    subst hjl
    refine wpAny_mono (W.done s' _ hSx hk) (fun r' s₃ q => ?_) fun _ _ x => x
    obtain ⟨rfl, mi⟩ := q
    have inv₃ := hinv.mvI mi (fun w => hIw1 (.inl w)) (fun w => hIw1 (.inr w)) (W.node _ s' I hSx rfl).1 hIok
    have mv₃ := MvI.after hmv mi (fun a w => w ▸ hI0) (fun g w => w.elim)
    exact wpAny_execs_nil ⟨.next, σ₁, as₁, cs₁, done σ₁ as₁ cs₁ hJ, trivial, inv₃, mv₃, mv₃.base k fun b w => w.elim (i.inv.off b) (i.off b), fun a w => (how a w).imp id fun z => st.ext.none z⟩
end
end Mine
end
section
open PySem PySem.W PyProof.Rows PySem.Calls
set_option maxRecDepth 100000
namespace Mine
section
variable {G : Gr} {n : Nat} {env : Env} {σ : St} {sc : Scope}
theorem pys_any (ds : List D) (d : D) : ((D.pys ds).any fun y => PyData.eqv y d.py) = ds.any fun y => y.eqb d := by
  induction ds with
  | nil => rfl
  | cons a r ih => rw [D.pys, List.any_cons, List.any_cons, ih]; rfl
theorem CmpD.in_list {ds : List D} {d : D} {k : Nat} (hl : (D.list ds).data k = true) (hd : d.data k = true) (hk : k ≤ 400) : CmpD G n .In d (.list ds) (ds.any fun y => y.eqb d) := fun ok A s E va vb r kb f ra rb => by
  obtain ⟨as, qa⟩ := rep_reads k ra hd
  obtain ⟨bs, qb⟩ := rep_reads k rb hl
  have la := data_lay k d hd
  cases k with
  | zero => cases hl
  | succ k =>
    have lb := datas_lay k ds (by simpa [D.data] using hl)
    have hm : min (PyData.depthAll (D.pys ds)) d.py.depth ≤ k := Nat.le_trans (Nat.min_le_left _ _) lb.2
    exact SeqAt.in_list_reads qb qa lb.1 la.1 (by have := r.units; omega) ⟨.refl, by rw [pys_any]⟩
theorem CmpD.in_tuple {ds : List D} {d : D} {k : Nat} (hl : (D.tuple ds).data k = true) (hd : d.data k = true) (hk : k ≤ 400) : CmpD G n .In d (.tuple ds) (ds.any fun y => y.eqb d) := fun ok A s E va vb r kb f ra rb => by
  obtain ⟨as, qa⟩ := rep_reads k ra hd
  obtain ⟨bs, qb⟩ := rep_reads k rb hl
  have la := data_lay k d hd
  cases k with
  | zero => cases hl
  | succ k =>
    have lb := datas_lay k ds (by simpa [D.data] using hl)
    have hm : min (PyData.depthAll (D.pys ds)) d.py.depth ≤ k := Nat.le_trans (Nat.min_le_left _ _) lb.2
    exact SeqAt.in_tuple_reads qb qa lb.1 la.1 (by have := r.units; omega) ⟨.refl, by rw [pys_any]⟩
theorem IdxD.tuple {ds : List D} {i : Int} {d : D} (h0 : 0 ≤ i) (h1 : i < 2 ^ 62) (h : ds[i.toNat]? = some d) : IdxD G n (.tuple ds) (.int i) d := fun ok A s E vo vi r k f ro ri => by
  cases ri
  cases ro with
  | tuple o l rs =>
    obtain ⟨v, hv, rv⟩ := rs.get h
    have hlt : i.toNat < ds.length := (List.getElem?_eq_some_iff.mp h).1
    refine getItem_tuple l (by omega) (by omega) (j := i.toNat) ?_ (by simpa using hv) ⟨.refl, rv⟩
    unfold seqIndex?
    rw [List.size_toArray, rs.length]
    simp only [show ¬ i < 0 by omega, if_false]
    rw [if_pos (by simp only [Bool.and_eq_true, decide_eq_true_eq]; omega)]
theorem CallD.isi_str_str {x : Str} : CallD G n (.builtin "isinstance") [.str x, .raw (.type "str")] (.bool true) := fun ok A s E vs r k f rs => by
  cases rs with
  | cons a rs => cases rs with
    | cons b rs => cases rs; cases b; cases a; exact IsiPair.str_str ⟨.refl, .bool _⟩
theorem CallD.isi_list_str {ds : List D} : CallD G n (.builtin "isinstance") [.list ds, .raw (.type "str")] (.bool false) := fun ok A s E vs r k f rs => by
  cases rs with
  | cons a rs => cases rs with
    | cons b rs =>
      cases rs; cases b
      cases a with
      | list o l rr => obtain ⟨ob, e, c, _⟩ := l; exact IsiPair.list_str e c ⟨.tok, .bool _⟩
theorem CallD.min2 {x y : Int} : CallD G n (.builtin "min") [.int x, .int y] (.int (if y < x then y else x)) := fun ok A s E vs r k f rs => by
  cases rs with
  | cons a rs => cases rs with
    | cons b rs =>
      cases rs; cases b; cases a
      refine min_two_ints r.handled fun h' tk hk => ⟨.heap hk, ?_⟩
      split <;> exact .int _ _
theorem RepAll.atomics {ok ok' : Addr → Prop} {h h' : Heap} : ∀ {vs : List Value} {ds : List D}, RepAll ok h vs ds → (∀ d ∈ ds, Atomic d = true) → RepAll ok' h' vs ds
  | _, _, .nil, _ => .nil
  | _, _, .cons a r, k => .cons (a.atomic (k _ (.head _))) (RepAll.atomics r fun d m => k d (.tail _ m))
/-- x + y, lists of things of one piece: a new one -/
theorem EvF.addA {a b : Expr} {p : Pos} {ds es : List D} (ha : EvB G n env σ a (.list ds)) (hb : EvB G n env σ b (.list es)) (hds : ∀ d ∈ ds, Atomic d = true) (hes : ∀ d ∈ es, Atomic d = true) (hz : ds.length + es.length ≤ sizeLine) :
    EvF G n env σ (.BinOp a .Add b p) (ds ++ es) := fun ok A s E r kb i =>
  wpAny_BinOp (wpAny_mono (ha ok A s E r kb i) (fun va s₁ p₁ => wpAny_mono (hb ok A s₁ E r (p₁.1.ext.base kb) (i.ext p₁.1.ext)) (fun vb s₂ p₂ => by
    have st12 := p₁.1.trans p₂.1
    have ra := p₁.2.stp p₂.1
    have rb := p₂.2
    cases ra with
    | @list a vs _ o l rs =>
      cases rb with
      | @list b ws _ o2 l2 rs2 =>
        obtain ⟨⟨cls, dd, data, sl⟩, ho, hc, m, hd⟩ := id l
        obtain ⟨⟨cls2, dd2, data2, sl2⟩, ho2, hc2, m2, hd2⟩ := id l2
        simp only at hc hd hc2 hd2
        subst hc hd hc2 hd2
        have e : vs.toArray ++ ws.toArray = (vs ++ ws).toArray := by simp
        refine concat_meets ⟨_, ho, rfl⟩ ⟨_, ho2, rfl⟩ noFill_list_add seq_list_add PySem.F.slot_list_add PySem.F.entry_list_add (PySem.F.args_list_add_2 _ _) (list_addW a b vs.toArray ws.toArray m m2 dd dd2 sl sl2 (by simpa [rs.length, rs2.length] using hz)) ⟨ho, ho2, ?_⟩
        rw [e]
        have st : Stp G.base s₂ { s₂ with heap := s₂.heap.push { cls := .type "list", data := .seq (vs ++ ws).toArray }, toks := s₂.toks } := .push
        exact ⟨st12.trans st, _, vs ++ ws, rfl, st12.ext.none fresh_get, ⟨_, Heap.get?_push_size _ rfl⟩, (rs.atomics hds).append (rs2.atomics hes)⟩) fun _ _ x => x) fun _ _ x => x)
theorem pickD_map {α β : Type} (f : α → β) (ds : List α) (lo hi st : Option Int) : pickD (ds.map f) lo hi st = (pickD ds lo hi st).map f := by
  unfold pickD
  rw [List.length_map, List.map_filterMap]
  congr 1
  funext i
  rw [List.getElem?_map]
end
end Mine
end
section
open PySem PySem.W PyProof.Rows PySem.Calls
set_option maxRecDepth 100000
namespace Mine
section
variable {G : Gr} {n : Nat} {env : Env} {σ : St} {sc : Scope}
theorem FEnv.swaps {env : Env} {sc : Scope} {e : Expr} {t : Option Expr} {l : Nat} {b : Bool} (FE : FEnv env sc) (h : ∀ env' : Env, swapsWith e t l { env' with scope := sc } = pure b) : swapsWith e t l env = pure b := by
  have : env = { env with scope := sc } := by rw [← FE.scope]
  rw [this]; exact h env
theorem Sub.set {x : Str} {s : Slot} : ∀ {σ₀ σ₁ : St}, Sub σ₀ σ₁ → x ∉ σ₀.map (·.1) → Sub σ₀ (setS x s σ₁)
  | [], _, _, _ => trivial
  | (y, t) :: r, σ₁, h, k => by
    rw [List.map_cons, List.mem_cons, not_or] at k
    exact ⟨by rw [lookup_setS_ne (Ne.symm k.1)]; exact h.1, Sub.set h.2 k.2⟩
theorem CallD.mono {f : Value} {ds : List D} {d : D} {m : Nat} (h : CallD G n f ds d) (hm : n ≤ m) : CallD G m f ds d := fun ok A s E vs r => h ok A s E vs (r.mono hm)
def nums (js : List Nat) : List D := js.map fun j => .int (j : Nat)
def posOf (d : D) : Nat := match d with
  | .int i => i.toNat
  | _ => 0
theorem nums_map (js : List Nat) (f : Nat → D) : (nums js).map (fun d => f (posOf d)) = js.map f := by
  unfold nums
  rw [List.map_map]
  refine List.map_congr_left fun j _ => ?_
  simp [Function.comp, posOf]
theorem nums_filter (js : List Nat) (f : Nat → Bool) : (nums js).filter (fun d => f (posOf d)) = nums (js.filter f) := by
  unfold nums
  rw [List.filter_map]
  congr 1
theorem rng_nums (m : Nat) : rngList 0 (m : Int) = nums (List.range m) := by
  unfold rngList nums
  rw [Int.sub_zero, Int.toNat_natCast]
  refine List.map_congr_left fun i _ => ?_
  rw [Int.zero_add]
theorem rng1_get {m i : Nat} {d : D} (h : (rngList 1 ((m : Int) + 1))[i]? = some d) : i < m ∧ d = .int ((i + 1 : Nat) : Int) := by
  unfold rngList at h
  rw [show ((m : Int) + 1 - 1).toNat = m by omega, List.getElem?_map] at h
  obtain ⟨j, hj, rfl⟩ := Option.map_eq_some_iff.mp h
  have hi : i < m := by have := (List.getElem?_eq_some_iff.mp hj).1; simpa using this
  rw [List.getElem?_range hi] at hj
  cases hj
  exact ⟨hi, by congr 1; omega⟩
theorem rng1_length (m : Nat) : (rngList 1 ((m : Int) + 1)).length = m := by simp [rngList]
theorem pickD_rev {α : Type} (ds : List α) : pickD ds none none (some (-1)) = ds.reverse := by
  have hb : sliceBounds none none (some (-1)) ds.length = ((ds.length : Int) - 1, -1, -1) := by
    simp [sliceBounds]
  unfold pickD
  rw [hb]
  unfold sliceRange
  simp only [show ¬ ((-1 : Int) > 0) by decide, if_false]
  have hc : (if (ds.length : Int) - 1 > -1 then ((ds.length : Int) - 1 - -1 - -1 - 1) / (- -1) else 0).toNat = ds.length := by
    split <;> simp at * <;> omega
  rw [hc]
  apply List.ext_getElem?
  intro i
  by_cases hi : i < ds.length
  · have hf : ((List.range ds.length).map fun (k : Nat) => ((ds.length : Int) - 1 + -1 * (k : Int)).toNat).filterMap (ds[·]?) = ((List.range ds.length).map fun (k : Nat) => (ds.length - 1 - k)).filterMap (ds[·]?) := by
      congr 1
      refine List.map_congr_left fun k hk => ?_
      have := List.mem_range.mp hk; omega
    rw [hf]
    have hg : ((List.range ds.length).map fun (k : Nat) => (ds.length - 1 - k)).filterMap (ds[·]?) = ds.reverse := by
      apply List.ext_getElem?
      intro i
      have key : ∀ (js : List Nat), (∀ j ∈ js, j < ds.length) → ∀ i : Nat, (js.filterMap (ds[·]?))[i]? = (js[i]?).bind (ds[·]?) := by
        intro js
        induction js with
        | nil => intro _ i; simp
        | cons j js ih =>
          intro h i
          have hj := h j (.head _)
          rw [List.filterMap_cons, List.getElem?_eq_getElem hj]
          cases i with
          | zero => simp [List.getElem?_eq_getElem hj]
          | succ i => simpa using ih (fun k hk => h k (.tail _ hk)) i
      rw [key _ (fun j hj => by obtain ⟨k, hk, rfl⟩ := List.mem_map.mp hj; have := List.mem_range.mp hk; omega)]
      by_cases hi : i < ds.length
      · rw [List.getElem?_map, List.getElem?_range hi, List.getElem?_reverse hi]; rfl
      · rw [List.getElem?_eq_none (by simp; omega), List.getElem?_eq_none (by simp; omega)]; rfl
    rw [hg]
  · rw [List.getElem?_eq_none (Nat.le_trans (List.length_filterMap_le _ _) (by simp; omega)), List.getElem?_eq_none (by simp; omega)]
end
end Mine
end
section
open PySem PySem.W PyProof.Rows PySem.Calls
set_option maxRecDepth 100000
namespace Mine
/-- does a text end behind a backslash -/
def ends : Bool → List Nat → Bool
  | b, [] => b
  | true, _ :: r => ends false r
  | false, c :: r => if c = 92 then ends true r else ends false r
theorem toks_append : ∀ (p : List Nat) (i : Nat) (b : Bool) (r : List Nat), ends b p = false → toks i b (p ++ r) = toks i b p ++ toks (i + p.length) false r
  | [], i, true, r, h => by cases h
  | [], i, false, r, h => by simp [toks]
  | c :: p, i, true, r, h => by
    have := toks_append p (i + 1) false r h
    show toks i true (c :: (p ++ r)) = _
    rw [toks, toks, this, List.cons_append, List.length_cons]
    congr 3; omega
  | c :: p, i, false, r, h => by
    show toks i false (c :: (p ++ r)) = _
    rw [toks, toks]
    unfold ends at h
    by_cases hc : c = 92
    · rw [if_pos hc] at h
      rw [if_pos hc, if_pos hc, toks_append p (i + 1) true r h, List.length_cons]
      congr 2; omega
    · rw [if_neg hc] at h
      rw [if_neg hc, if_neg hc, toks_append p (i + 1) false r h, List.cons_append, List.length_cons]
      congr 3; omega
/-- a stretch of a text: in quotation marks, or not -/
structure Un where
  q : Bool
  t : List Nat
/-- the tokens' words -/
def words (p : List Nat) : List (List Nat) := (toks 0 false p).map (·.2)
theorem toks_shift : ∀ (p : List Nat) (i j : Nat) (b : Bool), (toks i b p).map (·.2) = (toks j b p).map (·.2)
  | [], i, j, true => rfl
  | [], i, j, false => rfl
  | c :: p, i, j, true => by rw [toks, toks, List.map_cons, List.map_cons, toks_shift p (i + 1) (j + 1) false]
  | c :: p, i, j, false => by
    rw [toks, toks]
    split
    · exact toks_shift p (i + 1) (j + 1) true
    · rw [List.map_cons, List.map_cons, toks_shift p (i + 1) (j + 1) false]
structure Un.Ok (u : Un) : Prop where
  ends : ends false u.t = false
  ne : u.t ≠ []
  plain : u.q = false → [34] ∉ words u.t
  quote : u.q = true → ∃ m, u.t = 34 :: (m ++ [34]) ∧ Mine.ends false m = false ∧ [34] ∉ words m
theorem fold_no34 (l : List Nat) : ∀ (ts : List (Nat × List Nat)) (st : SS), [34] ∉ ts.map (·.2) → ts.foldl (stripStep l) st = st
  | [], st, _ => rfl
  | t :: r, st, h => by
    rw [List.map_cons, List.mem_cons, not_or] at h
    have : stripStep l st t = st := by unfold stripStep; rw [if_neg fun e => h.1 e.symm]
    rw [List.foldl_cons, this]; exact fold_no34 l r st h.2
theorem fold_unit (l : List Nat) {u : Un} (h : u.Ok) (i start : Nat) (rows : List (List Nat)) :
    (toks i false u.t).foldl (stripStep l) (start, none, rows) = if u.q then (i + u.t.length, none, if start ≠ i then rows ++ [(l.drop start).take (i - start)] else rows) else (start, none, rows) := by
  cases hq : u.q with
  | false =>
    refine fold_no34 l _ _ ?_
    rw [toks_shift u.t i 0]; exact h.plain hq
  | true =>
    obtain ⟨m, he, h1, h2⟩ := h.quote hq
    rw [he]
    have e1 : toks i false (34 :: (m ++ [34])) = (i, [34]) :: (toks (i + 1) false m ++ [(i + 1 + m.length, [34])]) := by
      rw [toks, if_neg (by decide), toks_append m (i + 1) false [34] h1]
      rfl
    rw [e1, List.foldl_cons, List.foldl_append]
    have e2 : stripStep l (start, none, rows) (i, [34]) = (start, some i, rows) := by simp [stripStep]
    have e3 : (toks (i + 1) false m).foldl (stripStep l) (start, some i, rows) = (start, some i, rows) := fold_no34 l _ _ (by rw [toks_shift m (i + 1) 0]; exact h2)
    rw [e2, e3, List.foldl_cons, List.foldl_nil, if_pos rfl]
    unfold stripStep
    rw [if_pos rfl]
    have e4 : i + 1 + m.length + 1 = i + (34 :: (m ++ [34])).length := by simp; omega
    show (i + 1 + m.length + 1, none, _) = _
    rw [e4]
def txt (us : List Un) : List Nat := (us.map (·.t)).flatten
def bareT (us : List Un) : List Nat := ((us.filter fun u => !u.q).map (·.t)).flatten
theorem fold_units (l : List Nat) : ∀ (us : List Un), (∀ u ∈ us, u.Ok) → ∀ (i start : Nat) (rows : List (List Nat)) (done : List Nat), l.drop i = txt us → start ≤ i → i ≤ l.length → rows.flatten ++ (l.drop start).take (i - start) = done →
    (stripEnd l ((toks i false (txt us)).foldl (stripStep l) (start, none, rows))).flatten = done ++ bareT us
  | [], _, i, start, rows, done, h1, h2, h3, h4 => by
    have hi : i = l.length := by
      have := congrArg List.length h1
      simp [txt] at this; omega
    subst hi
    show (stripEnd l (start, none, rows)).flatten = _
    rw [← h4]
    have e : (l.drop start).take (l.length - start) = l.drop start := List.take_of_length_le (by simp)
    rw [e]
    unfold stripEnd bareT
    split
    · simp
    · rename_i hs
      have : l.drop start = [] := List.drop_eq_nil_of_le (by simpa using hs)
      simp [this]
  | u :: us, hok, i, start, rows, done, h1, h2, h3, h4 => by
    have hu := hok u (.head _)
    have ht : txt (u :: us) = u.t ++ txt us := by simp [txt]
    rw [ht] at h1 ⊢
    have hlen : u.t.length + (txt us).length = l.length - i := by
      have := congrArg List.length h1
      simp at this; omega
    have hdrop : l.drop (i + u.t.length) = txt us := by rw [← List.drop_drop, h1]; simp
    rw [toks_append u.t i false (txt us) hu.ends, List.foldl_append, fold_unit l hu]
    cases hq : u.q with
    | true =>
      rw [if_pos rfl]
      have := fold_units l us (fun v hv => hok v (.tail _ hv)) (i + u.t.length) (i + u.t.length) (if start ≠ i then rows ++ [(l.drop start).take (i - start)] else rows) done hdrop (Nat.le_refl _) (by omega) (by
        rw [Nat.sub_self, List.take_zero, List.append_nil, ← h4]
        by_cases hs : start = i
        · subst hs; simp
        · rw [if_pos hs]; simp)
      rw [this]
      simp [bareT, hq]
    | false =>
      rw [if_neg (by simp)]
      have htk : (l.drop start).take (i + u.t.length - start) = (l.drop start).take (i - start) ++ u.t := by
        have e1 : l.drop i = (l.drop start).drop (i - start) := by rw [List.drop_drop]; congr 1; omega
        have e2 : i + u.t.length - start = (i - start) + u.t.length := by omega
        rw [e2, List.take_add, ← e1, h1]
        simp
      have := fold_units l us (fun v hv => hok v (.tail _ hv)) (i + u.t.length) start rows (done ++ u.t) hdrop (by omega) (by omega) (by rw [htk, ← List.append_assoc, h4])
      rw [this]
      simp [bareT, hq]
theorem strip_units {us : List Un} (h : ∀ u ∈ us, u.Ok) : strip (txt us) = bareT us := by
  unfold strip
  split
  · have := fold_units (txt us) us h 0 0 [] [] rfl (Nat.le_refl _) (Nat.zero_le _) (by simp)
    rw [List.nil_append] at this
    exact this
  · rename_i h34
    have : us.filter (fun u => !u.q) = us := List.filter_eq_self.mpr fun u hu => by
      cases hq : u.q with
      | false => rfl
      | true =>
        obtain ⟨m, he, _⟩ := (h u hu).quote hq
        exact absurd (List.mem_flatten.mpr ⟨u.t, List.mem_map.mpr ⟨u, hu, rfl⟩, by rw [he]; exact .head _⟩) h34
    unfold bareT txt; rw [this]
end Mine
end
section
open PySem PySem.W PyProof.Rows PySem.Calls
set_option maxRecDepth 100000
namespace Mine
def stepB (st : Option Int) (t : List Nat) : Option Int := openStep st (0, t)
theorem openStep_pos (st : Option Int) (i : Nat) (t : List Nat) : openStep st (i, t) = stepB st t := by unfold stepB openStep; rfl
def Lone (t : List Nat) : Prop := t = [40] ∨ t = [41] ∨ ([40] ∉ words t ∧ [41] ∉ words t)
theorem fold_no (ts : List (Nat × List Nat)) (st : Option Int) (h1 : [40] ∉ ts.map (·.2)) (h2 : [41] ∉ ts.map (·.2)) : ts.foldl openStep st = st := by
  induction ts with
  | nil => rfl
  | cons t r ih =>
    rw [List.map_cons, List.mem_cons, not_or] at h1 h2
    have : openStep st t = st := by
      cases st with
      | none => rfl
      | some k => simp [openStep, Ne.symm h1.1, Ne.symm h2.1]
    rw [List.foldl_cons, this]; exact ih h1.2 h2.2
theorem fold_lone {t : List Nat} (h : Lone t) (i : Nat) (st : Option Int) : (toks i false t).foldl openStep st = stepB st t := by
  rcases h with rfl | rfl | ⟨h1, h2⟩
  · exact openStep_pos st i [40]
  · exact openStep_pos st i [41]
  · rw [fold_no _ st (by rw [toks_shift t i 0]; exact h1) (by rw [toks_shift t i 0]; exact h2)]
    have n1 : t ≠ [40] := fun e => h1 (by rw [e]; decide)
    have n2 : t ≠ [41] := fun e => h2 (by rw [e]; decide)
    cases st with
    | none => rfl
    | some k => simp [stepB, openStep, n1, n2]
theorem open_units : ∀ (us : List Un), (∀ u ∈ us, u.Ok) → (∀ u ∈ us, Lone u.t) → ∀ (i : Nat) (st : Option Int), (toks i false (txt us)).foldl openStep st = (us.map (·.t)).foldl stepB st
  | [], _, _, i, st => rfl
  | u :: us, h1, h2, i, st => by
    have ht : txt (u :: us) = u.t ++ txt us := by simp [txt]
    rw [ht, toks_append u.t i false (txt us) (h1 u (.head _)).ends, List.foldl_append, fold_lone (h2 u (.head _))]
    exact open_units us (fun v hv => h1 v (.tail _ hv)) (fun v hv => h2 v (.tail _ hv)) _ _
/-- the bodies that stand outside of quotation marks -/
def bodies (us : List Un) : List (List Nat) := (us.filter fun u => !u.q).map (·.t)
theorem check_units {us : List Un} (h1 : ∀ u ∈ us, u.Ok) (h2 : ∀ u ∈ us, u.q = false → Lone u.t) : check (txt us) = ((bodies us).foldl stepB (some 0) == some 0) := by
  unfold check sound openAt
  have e : strip (txt us) = txt (us.filter fun u => !u.q) := strip_units h1
  rw [e, open_units _ (fun u hu => h1 u (List.mem_filter.mp hu).1) (fun u hu => h2 u (List.mem_filter.mp hu).1 (by simpa using (List.mem_filter.mp hu).2))]
  rfl
/-- what is seen of the brackets: a flag hides -/
def stepV (st : Option Int) (p : List Nat) (h : Bool) : Option Int := if h then st else stepB st p
def seen (P : List (List Nat)) (fl : List Bool) (i : Nat) : Option Int := (List.range i).foldl (fun st j => stepV st (P.getD j []) (fl.getD j false)) (some 0)
def marks (l : List Bool) (js : List Nat) : List Bool := js.foldl (fun l j => l.set j true) l
/-- the sum of what is seen -/
def val (p : List Nat) (h : Bool) : Int := if h then 0 else if p = [40] then 1 else if p = [41] then -1 else 0
end Mine
end
section
open PySem PySem.W PyProof.Rows PySem.Calls
set_option maxRecDepth 100000
namespace Mine
def quoted5 : List (List Nat) := [[34, 40, 34], [34, 41, 34], [34, 92, 34, 40, 34], [34, 97, 41, 92, 92, 34], [34, 34]]
/-- the pieces of law 08 -/
inductive Pc : List Nat → Prop
  | op : Pc [40]
  | cl : Pc [41]
  | esc (c : Nat) : c < 1114112 → Pc [92, c]
  | quo (p : List Nat) : p ∈ quoted5 → Pc p
  | one (c : Nat) : c < 1114112 → c ∉ [34, 92, 40, 41] → Pc [c]
def isQ (p : List Nat) : Bool := p.head? == some 34
theorem Pc.good {p : List Nat} (h : Pc p) : Good p ∧ p.length ≤ 6 ∧ p ≠ [] := by
  cases h with
  | op => exact ⟨fun c hc => by simp at hc; omega, by simp, by simp⟩
  | cl => exact ⟨fun c hc => by simp at hc; omega, by simp, by simp⟩
  | esc c hc => exact ⟨fun d hd => by simp at hd; omega, by simp, by simp⟩
  | quo p hp =>
    simp only [quoted5, List.mem_cons, List.not_mem_nil, or_false] at hp
    rcases hp with rfl | rfl | rfl | rfl | rfl <;> exact ⟨fun c hc => by simp at hc; omega, by simp, by simp⟩
  | one c hc _ => exact ⟨fun d hd => by simp at hd; omega, by simp, by simp⟩
theorem Pc.ok {p : List Nat} (h : Pc p) : (⟨isQ p, p⟩ : Un).Ok ∧ (isQ p = false → Lone p) := by
  cases h with
  | op => exact ⟨⟨rfl, by simp, fun _ => by decide, nofun⟩, fun _ => .inl rfl⟩
  | cl => exact ⟨⟨rfl, by simp, fun _ => by decide, nofun⟩, fun _ => .inr (.inl rfl)⟩
  | esc c hc => exact ⟨⟨rfl, by simp, fun _ => by simp [words, toks], nofun⟩, fun _ => .inr (.inr (by simp [words, toks]))⟩
  | quo p hp =>
    simp only [quoted5, List.mem_cons, List.not_mem_nil, or_false] at hp
    rcases hp with rfl | rfl | rfl | rfl | rfl
    · exact ⟨⟨rfl, by simp, nofun, fun _ => ⟨[40], rfl, rfl, by decide⟩⟩, nofun⟩
    · exact ⟨⟨rfl, by simp, nofun, fun _ => ⟨[41], rfl, rfl, by decide⟩⟩, nofun⟩
    · exact ⟨⟨rfl, by simp, nofun, fun _ => ⟨[92, 34, 40], rfl, rfl, by decide⟩⟩, nofun⟩
    · exact ⟨⟨rfl, by simp, nofun, fun _ => ⟨[97, 41, 92, 92], rfl, rfl, by decide⟩⟩, nofun⟩
    · exact ⟨⟨rfl, by simp, nofun, fun _ => ⟨[], rfl, rfl, by decide⟩⟩, nofun⟩
  | one c hc hn =>
    simp only [List.mem_cons, List.not_mem_nil, or_false, not_or] at hn
    have hq : isQ [c] = false := by simp [isQ, hn.1]
    refine ⟨⟨by simp [ends, hn.2.1], by simp, fun _ => by simp [words, toks, hn.2.1]; exact fun e => hn.1 e.symm, fun e => ?_⟩, fun _ => .inr (.inr (by simp [words, toks, hn.2.1]; exact ⟨fun e => hn.2.2.1 e.symm, fun e => hn.2.2.2 e.symm⟩))⟩
    rw [show (Un.mk (isQ [c]) [c]).q = isQ [c] from rfl, hq] at e; cases e
theorem stepB_other {st : Option Int} {t : List Nat} (h1 : t ≠ [40]) (h2 : t ≠ [41]) : stepB st t = st := by
  cases st with
  | none => rfl
  | some k => simp [stepB, openStep, h1, h2]
end Mine
end
section
open PySem PySem.W PyProof.Rows PySem.Calls
set_option maxRecDepth 100000
namespace Mine
/-- a row of leaves and groups -/
inductive Fo where
  | nil
  | leaf (p : List Nat) (r : Fo)
  | group (i : Fo) (r : Fo)
inductive It where
  | leaf (p : List Nat)
  | group (i : Fo)
def Fo.items : Fo → List It
  | .nil => []
  | .leaf p r => .leaf p :: r.items
  | .group i r => .group i :: r.items
def Fo.toD : Fo → List D
  | .nil => []
  | .leaf p r => .str (S p) :: r.toD
  | .group i r => .list i.toD :: r.toD
def Fo.wr : Fo → List (List Nat)
  | .nil => []
  | .leaf p r => p :: r.wr
  | .group i r => [40] :: (i.wr ++ [41] :: r.wr)
def Fo.depth : Fo → Nat
  | .nil => 0
  | .leaf _ r => r.depth
  | .group i r => max (i.depth + 1) r.depth
def Fo.nodes : Fo → Nat
  | .nil => 0
  | .leaf _ r => r.nodes + 1
  | .group i r => i.nodes + r.nodes + 1
def It.d : It → D
  | .leaf p => .str (S p)
  | .group i => .list i.toD
def It.w : It → List (List Nat)
  | .leaf p => [p]
  | .group i => [40] :: (i.wr ++ [[41]])
theorem Fo.toD_items : ∀ F : Fo, F.toD = F.items.map It.d
  | .nil => rfl
  | .leaf p r => by rw [toD, items, List.map_cons, toD_items r]; rfl
  | .group i r => by rw [toD, items, List.map_cons, toD_items r]; rfl
theorem Fo.wr_items : ∀ F : Fo, F.wr = (F.items.map It.w).flatten
  | .nil => rfl
  | .leaf p r => by rw [wr, items, List.map_cons, List.flatten_cons, wr_items r]; rfl
  | .group i r => by rw [wr, items, List.map_cons, List.flatten_cons, wr_items r]; simp [It.w]
def Fo.snoc : Fo → It → Fo
  | .nil, .leaf p => .leaf p .nil
  | .nil, .group i => .group i .nil
  | .leaf p r, t => .leaf p (r.snoc t)
  | .group i r, t => .group i (r.snoc t)
theorem Fo.snoc_toD (t : It) : ∀ F : Fo, (F.snoc t).toD = F.toD ++ [t.d]
  | .nil => by cases t <;> rfl
  | .leaf p r => by rw [snoc, toD, snoc_toD t r]; rfl
  | .group i r => by rw [snoc, toD, snoc_toD t r]; rfl
def It.nodes : It → Nat
  | .leaf _ => 1
  | .group i => i.nodes + 1
theorem Fo.snoc_nodes (t : It) : ∀ F : Fo, (F.snoc t).nodes = F.nodes + t.nodes
  | .nil => by cases t <;> simp [snoc, nodes, It.nodes]
  | .leaf p r => by rw [snoc, nodes, snoc_nodes t r, nodes]; omega
  | .group i r => by rw [snoc, nodes, snoc_nodes t r, nodes]; omega
def leafs6 : List (List Nat) := [[98], [92, 40], [34, 41, 34], [92, 34], [34, 40, 92, 34, 34], [92, 41]]
def Fo.Gd : Fo → Prop
  | .nil => True
  | .leaf p r => p ∈ leafs6 ∧ r.Gd
  | .group i r => i.Gd ∧ r.Gd
def It.Gd : It → Prop
  | .leaf p => p ∈ leafs6
  | .group i => i.Gd
theorem Fo.snoc_gd {t : It} (h : t.Gd) : ∀ {F : Fo}, F.Gd → (F.snoc t).Gd
  | .nil, _ => by cases t <;> exact ⟨h, trivial⟩
  | .leaf p r, k => ⟨k.1, snoc_gd h k.2⟩
  | .group i r, k => ⟨k.1, snoc_gd h k.2⟩
theorem Fo.gd_items : ∀ {F : Fo}, F.Gd → ∀ t ∈ F.items, t.Gd
  | .nil, _, t, m => nomatch m
  | .leaf p r, k, t, m => by
    rcases List.mem_cons.mp m with e | e
    · rw [e]; exact k.1
    · exact gd_items k.2 t e
  | .group i r, k, t, m => by
    rcases List.mem_cons.mp m with e | e
    · rw [e]; exact k.1
    · exact gd_items k.2 t e
theorem Fo.depth_items : ∀ {F : Fo} {i : Fo}, It.group i ∈ F.items → i.depth < F.depth ∧ i.nodes < F.nodes
  | .nil, _, m => nomatch m
  | .leaf p r, i, m => by
    rcases List.mem_cons.mp m with e | e
    · cases e
    · have := depth_items e; exact ⟨this.1, by rw [nodes]; omega⟩
  | .group j r, i, m => by
    rcases List.mem_cons.mp m with e | e
    · cases e; exact ⟨Nat.lt_of_lt_of_le (Nat.lt_succ_self _) (Nat.le_max_left _ _), by rw [nodes]; omega⟩
    · have := depth_items e; exact ⟨Nat.lt_of_lt_of_le this.1 (Nat.le_max_right _ _), by rw [nodes]; omega⟩
theorem Fo.depth_le : ∀ F : Fo, F.depth ≤ F.nodes
  | .nil => Nat.le_refl _
  | .leaf p r => by have := depth_le r; rw [depth, nodes]; omega
  | .group i r => by have := depth_le r; have := depth_le i; rw [depth, nodes]; omega
theorem Fo.wr_len : ∀ F : Fo, F.wr.length ≤ 2 * F.nodes
  | .nil => Nat.le_refl _
  | .leaf p r => by have := wr_len r; rw [wr, nodes, List.length_cons]; omega
  | .group i r => by have := wr_len r; have := wr_len i; rw [wr, nodes, List.length_cons, List.length_append, List.length_cons]; omega
theorem Fo.toD_len : ∀ F : Fo, F.toD.length ≤ F.nodes
  | .nil => Nat.le_refl _
  | .leaf p r => by have := toD_len r; rw [toD, nodes, List.length_cons]; omega
  | .group i r => by have := toD_len r; rw [toD, nodes, List.length_cons]; omega
def closeF : List Fo → Fo → Fo
  | [], c => c
  | o :: os, c => closeF os (o.snoc (.group c))
theorem closeD_two : ∀ (xs : List (List D)) (a b : List D), closeD (xs ++ [a, b]) = closeD (xs ++ [a ++ [.list b]])
  | [], a, b => rfl
  | [x], a, b => rfl
  | x :: y :: xs, a, b => by
    have h := closeD_two (y :: xs) a b
    show x ++ [.list (closeD (y :: xs ++ [a, b]))] = x ++ [.list (closeD (y :: xs ++ [a ++ [.list b]]))]
    rw [h]
theorem closeF_D : ∀ (os : List Fo) (c : Fo), closeD ((os.reverse ++ [c]).map Fo.toD) = (closeF os c).toD
  | [], c => rfl
  | o :: os, c => by
    have h := closeF_D os (o.snoc (.group c))
    rw [closeF, ← h]
    simp only [List.reverse_cons, List.map_append, List.map_cons, List.map_nil, List.append_assoc, List.cons_append, List.nil_append]
    rw [closeD_two, Fo.snoc_toD]; rfl
abbrev TS := List Fo × Fo
def leafAt (k : Nat) : List Nat := leafs6.getD k []
def stepT (st : TS) (n : Int) : TS :=
  if n.fmod 9 < 2 then (st.2 :: st.1, .nil)
  else if n.fmod 9 > 3 then (st.1, st.2.snoc (.leaf (leafAt (n.fmod 9 - 4).toNat)))
  else match st.1 with
    | [] => ([], st.2.snoc (.leaf [92, 41]))
    | o :: os => (os, o.snoc (.group st.2))
def treeAt (ns : List Int) : TS := ns.foldl stepT ([], .nil)
theorem treeAt_snoc (ns : List Int) (n : Int) : treeAt (ns ++ [n]) = stepT (treeAt ns) n := by simp [treeAt]
def sumN (l : List Fo) : Nat := (l.map Fo.nodes).sum
theorem leafAt_gd {n : Int} (h : n.fmod 9 > 3) : leafAt (n.fmod 9 - 4).toNat ∈ leafs6 := by
  have h2 : n.fmod 9 < 9 := Int.fmod_lt_of_pos _ (by decide)
  unfold leafAt
  have : (n.fmod 9 - 4).toNat < leafs6.length := by show _ < 6; omega
  rw [List.getD_eq_getElem?_getD, List.getElem?_eq_getElem this]
  exact List.getElem_mem _
theorem stepT_ok (st : TS) (n : Int) (k : Nat) (h1 : ∀ o ∈ st.1, o.Gd) (h2 : st.2.Gd) (h3 : sumN st.1 + st.1.length + st.2.nodes ≤ k) :
    (∀ o ∈ (stepT st n).1, o.Gd) ∧ (stepT st n).2.Gd ∧ sumN (stepT st n).1 + (stepT st n).1.length + (stepT st n).2.nodes ≤ k + 1 := by
  obtain ⟨os, c⟩ := st
  unfold stepT
  dsimp only at *
  split
  · refine ⟨fun o ho => ?_, trivial, ?_⟩
    · rcases List.mem_cons.mp ho with e | e
      · rw [e]; exact h2
      · exact h1 o e
    · simp only [sumN, List.map_cons, List.sum_cons, List.length_cons, Fo.nodes] at *; omega
  · split
    · rename_i _ h
      exact ⟨h1, Fo.snoc_gd (t := .leaf _) (leafAt_gd h) h2, by rw [Fo.snoc_nodes]; simp only [It.nodes]; omega⟩
    · cases os with
      | nil => exact ⟨h1, Fo.snoc_gd (t := .leaf _) (by show _ ∈ leafs6; decide) h2, by rw [Fo.snoc_nodes]; simp only [It.nodes]; omega⟩
      | cons o os =>
        refine ⟨fun p hp => h1 p (.tail _ hp), Fo.snoc_gd (t := .group _) h2 (h1 o (.head _)), ?_⟩
        rw [Fo.snoc_nodes]
        simp only [sumN, List.map_cons, List.sum_cons, List.length_cons, It.nodes] at *; omega
theorem treeAt_ok (ns : List Int) : (∀ o ∈ (treeAt ns).1, o.Gd) ∧ (treeAt ns).2.Gd ∧ sumN (treeAt ns).1 + (treeAt ns).1.length + (treeAt ns).2.nodes ≤ ns.length := by
  have : ∀ m, ∀ ns : List Int, ns.length = m → (∀ o ∈ (treeAt ns).1, o.Gd) ∧ (treeAt ns).2.Gd ∧ sumN (treeAt ns).1 + (treeAt ns).1.length + (treeAt ns).2.nodes ≤ ns.length := by
    intro m
    induction m with
    | zero => intro ns h; rw [List.eq_nil_of_length_eq_zero h]; exact ⟨nofun, trivial, Nat.le_refl _⟩
    | succ m ih =>
      intro ns h
      have hne : ns ≠ [] := fun e => by rw [e] at h; cases h
      rw [← List.dropLast_concat_getLast hne] at h ⊢
      rw [treeAt_snoc]
      have hl : ns.dropLast.length = m := by simpa using h
      obtain ⟨a, b, c⟩ := ih _ hl
      have := stepT_ok _ (ns.getLast hne) _ a b c
      rw [List.length_append]
      exact this
  exact this _ ns rfl
theorem closeF_ok : ∀ (os : List Fo) (c : Fo), (∀ o ∈ os, o.Gd) → c.Gd → (closeF os c).Gd ∧ (closeF os c).nodes = sumN os + os.length + c.nodes
  | [], c, _, h => ⟨h, by simp [closeF, sumN]⟩
  | o :: os, c, h1, h2 => by
    have := closeF_ok os (o.snoc (.group c)) (fun p hp => h1 p (.tail _ hp)) (Fo.snoc_gd (t := .group _) h2 (h1 o (.head _)))
    refine ⟨this.1, ?_⟩
    rw [closeF, this.2, Fo.snoc_nodes]
    simp only [sumN, List.map_cons, List.sum_cons, List.length_cons, It.nodes]; omega
def treeOf (ns : List Int) : Fo := closeF (treeAt ns).1 (treeAt ns).2
theorem treeOf_ok (ns : List Int) : (treeOf ns).Gd ∧ (treeOf ns).nodes ≤ ns.length := by
  obtain ⟨a, b, c⟩ := treeAt_ok ns
  have := closeF_ok _ _ a b
  exact ⟨this.1, by unfold treeOf; omega⟩
inductive Pk : List Nat → Prop
  | op : Pk [40]
  | cl : Pk [41]
  | lf (p : List Nat) : p ∈ leafs6 → Pk p
theorem Pk.good {p : List Nat} (h : Pk p) : Good p ∧ p.length ≤ 5 ∧ p ≠ [] ∧ 39 ∉ p := by
  cases h with
  | op => exact ⟨fun c hc => by simp at hc; omega, by simp, by simp, by simp⟩
  | cl => exact ⟨fun c hc => by simp at hc; omega, by simp, by simp, by simp⟩
  | lf p hp =>
    simp only [leafs6, List.mem_cons, List.not_mem_nil, or_false] at hp
    rcases hp with rfl | rfl | rfl | rfl | rfl | rfl <;> exact ⟨fun c hc => by simp at hc; omega, by simp, by simp, by simp⟩
theorem Pk.ok {p : List Nat} (h : Pk p) : (⟨isQ p, p⟩ : Un).Ok ∧ (isQ p = false → Lone p) := by
  cases h with
  | op => exact Pc.op.ok
  | cl => exact Pc.cl.ok
  | lf p hp =>
    simp only [leafs6, List.mem_cons, List.not_mem_nil, or_false] at hp
    rcases hp with rfl | rfl | rfl | rfl | rfl | rfl
    · exact (Pc.one 98 (by decide) (by decide)).ok
    · exact (Pc.esc 40 (by decide)).ok
    · exact (Pc.quo _ (by decide)).ok
    · exact (Pc.esc 34 (by decide)).ok
    · exact ⟨⟨rfl, by simp, nofun, fun _ => ⟨[40, 92, 34], rfl, rfl, by decide⟩⟩, nofun⟩
    · exact (Pc.esc 41 (by decide)).ok
theorem leaf_ne {p : List Nat} (h : p ∈ leafs6) : p ≠ [40] ∧ p ≠ [41] := by
  simp only [leafs6, List.mem_cons, List.not_mem_nil, or_false] at h
  rcases h with rfl | rfl | rfl | rfl | rfl | rfl <;> decide
theorem Fo.pk : ∀ {F : Fo}, F.Gd → ∀ p ∈ F.wr, Pk p
  | .nil, _, p, m => nomatch m
  | .leaf q r, k, p, m => by
    rcases List.mem_cons.mp m with e | e
    · rw [e]; exact .lf _ k.1
    · exact pk k.2 p e
  | .group i r, k, p, m => by
    rcases List.mem_cons.mp m with e | e
    · rw [e]; exact .op
    · rcases List.mem_append.mp e with e | e
      · exact pk k.1 p e
      · rcases List.mem_cons.mp e with e | e
        · rw [e]; exact .cl
        · exact pk k.2 p e
def run (ps : List (List Nat)) (st : Option Int) : Option Int := ps.foldl stepB st
theorem run_cons (p : List Nat) (ps : List (List Nat)) (st : Option Int) : run (p :: ps) st = run ps (stepB st p) := rfl
theorem run_append (ps qs : List (List Nat)) (st : Option Int) : run (ps ++ qs) st = run qs (run ps st) := List.foldl_append ..
theorem stepB_op {k : Int} : stepB (some k) [40] = some (k + 1) := by simp [stepB, openStep]
theorem stepB_cl {k : Int} (h : 1 ≤ k) : stepB (some k) [41] = some (k - 1) := by simp [stepB, openStep]; omega
theorem stepB_none (p : List Nat) : stepB none p = none := rfl
theorem run_none : ∀ ps, run ps none = none
  | [] => rfl
  | p :: ps => by rw [run_cons, stepB_none, run_none ps]
theorem check_pieces {ps : List (List Nat)} (h : ∀ p ∈ ps, Pk p) : check ps.flatten = (run ps (some 0) == some 0) := by
  have hu : ∀ u ∈ ps.map fun p => (⟨isQ p, p⟩ : Un), u.Ok ∧ (u.q = false → Lone u.t) := fun u hu => by
    obtain ⟨p, hp, rfl⟩ := List.mem_map.mp hu
    exact (h p hp).ok
  have h1 := check_units (us := ps.map fun p => (⟨isQ p, p⟩ : Un)) (fun u m => (hu u m).1) (fun u m => (hu u m).2)
  have h2 : txt (ps.map fun p => (⟨isQ p, p⟩ : Un)) = ps.flatten := by unfold txt; rw [List.map_map]; congr 1; exact List.map_id' ps
  rw [h2] at h1
  rw [h1]
  have h3 : ∀ (ps : List (List Nat)) (st : Option Int), (∀ p ∈ ps, Pk p) → (bodies (ps.map fun p => (⟨isQ p, p⟩ : Un))).foldl stepB st = run ps st := by
    intro ps
    induction ps with
    | nil => intro st _; rfl
    | cons p ps ih =>
      intro st hp
      have ih' := fun st => ih st fun q hq => hp q (.tail _ hq)
      rw [run_cons]
      unfold bodies at ih' ⊢
      rw [List.map_cons, List.filter_cons]
      by_cases q : isQ p = true
      · have hne : p ≠ [40] ∧ p ≠ [41] := ⟨(fun e => by rw [e] at q; cases q), (fun e => by rw [e] at q; cases q)⟩
        simp only [q, Bool.not_true, Bool.false_eq_true, if_false]
        rw [stepB_other hne.1 hne.2]
        exact ih' st
      · have q' : isQ p = false := by simpa using q
        simp only [q', Bool.not_false, if_true, List.map_cons, List.foldl_cons]
        exact ih' _
  rw [h3 ps _ h]
theorem run_wr : ∀ {F : Fo}, F.Gd → ∀ {k : Int}, 0 ≤ k → run F.wr (some k) = some k
  | .nil, _, k, _ => rfl
  | .leaf p r, g, k, hk => by
    rw [Fo.wr, run_cons, stepB_other (leaf_ne g.1).1 (leaf_ne g.1).2, run_wr g.2 hk]
  | .group i r, g, k, hk => by
    rw [Fo.wr, run_cons, stepB_op, run_append, run_wr g.1 (by omega), run_cons, stepB_cl (by omega), show k + 1 - 1 = k by omega, run_wr g.2 hk]
theorem run_take : ∀ {F : Fo}, F.Gd → ∀ {k : Int}, 0 ≤ k → ∀ j, ∃ m, k ≤ m ∧ run (F.wr.take j) (some k) = some m
  | .nil, _, k, _, j => ⟨k, Int.le_refl _, by rw [Fo.wr, List.take_nil]; rfl⟩
  | .leaf p r, g, k, hk, 0 => ⟨k, Int.le_refl _, rfl⟩
  | .leaf p r, g, k, hk, j + 1 => by
    rw [Fo.wr, List.take_succ_cons, run_cons, stepB_other (leaf_ne g.1).1 (leaf_ne g.1).2]
    exact run_take g.2 hk j
  | .group i r, g, k, hk, 0 => ⟨k, Int.le_refl _, rfl⟩
  | .group i r, g, k, hk, j + 1 => by
    rw [Fo.wr, List.take_succ_cons, run_cons, stepB_op, List.take_append, run_append]
    by_cases hj : j ≤ i.wr.length
    · obtain ⟨m, h1, h2⟩ := run_take (F := i) g.1 (k := k + 1) (by omega) j
      rw [h2, show j - i.wr.length = 0 by omega]
      exact ⟨m, by omega, rfl⟩
    · rw [List.take_of_length_le (l := i.wr) (by omega), run_wr g.1 (by omega), show j - i.wr.length = (j - i.wr.length - 1) + 1 by omega, List.take_succ_cons, run_cons, stepB_cl (by omega), show k + 1 - 1 = k by omega]
      exact run_take g.2 hk _
/-- within a group the count is above -/
theorem run_group {i : Fo} (g : i.Gd) {j : Nat} (h1 : 1 ≤ j) (h2 : j < i.wr.length + 2) : ∃ m : Int, 1 ≤ m ∧ run ((It.group i).w.take j) (some 0) = some m := by
  obtain ⟨j, rfl⟩ : ∃ j', j = j' + 1 := ⟨j - 1, by omega⟩
  rw [It.w, List.take_succ_cons, run_cons, stepB_op, List.take_append, run_append, show j - i.wr.length = 0 by omega]
  obtain ⟨m, h3, h4⟩ := run_take g (k := 0 + 1) (by omega) j
  exact ⟨m, by omega, h4⟩
def tot (ps : List (List Nat)) : Int := (ps.map fun p => val p false).sum
theorem run_tot : ∀ (ps : List (List Nat)) {k m : Int}, run ps (some k) = some m → m = k + tot ps
  | [], k, m, h => by cases h; simp [tot]
  | p :: ps, k, m, h => by
    rw [run_cons] at h
    cases hs : stepB (some k) p with
    | none => rw [hs, run_none] at h; cases h
    | some k' =>
      rw [hs] at h
      have := run_tot ps h
      have hk : k' = k + val p false := by
        unfold stepB openStep at hs
        unfold val
        dsimp only at hs
        split at hs
        · rename_i e; cases hs; simp [e]
        · split at hs
          · rename_i e e2
            split at hs
            · cases hs
            · cases hs; rw [if_neg (by simp), if_neg e, if_pos e2]; omega
          · rename_i e e2; cases hs; rw [if_neg (by simp), if_neg e, if_neg e2]; omega
      simp only [tot, List.map_cons, List.sum_cons] at this ⊢
      omega
theorem tot_append (ps qs : List (List Nat)) : tot (ps ++ qs) = tot ps + tot qs := by simp [tot]
/-- one bracket less: not sound -/
theorem less_bad {F : Fo} (g : F.Gd) {k : Nat} (hk : k < F.wr.length) (hb : F.wr.getD k [] = [40] ∨ F.wr.getD k [] = [41]) : check (F.wr.take k ++ F.wr.drop (k + 1)).flatten = false := by
  have hp := Fo.pk g
  rw [check_pieces fun p m => hp p (by
    rcases List.mem_append.mp m with m | m
    · exact List.mem_of_mem_take m
    · exact List.mem_of_mem_drop m)]
  have h0 := run_tot _ (run_wr g (k := 0) (by omega))
  have hs : F.wr = F.wr.take k ++ F.wr.getD k [] :: F.wr.drop (k + 1) := by
    conv => lhs; rw [← List.take_append_drop k F.wr]
    rw [List.drop_eq_getElem_cons hk]
    simp [List.getD, hk]
  rw [hs, tot_append] at h0
  have h1 : tot (F.wr.getD k [] :: F.wr.drop (k + 1)) = val (F.wr.getD k []) false + tot (F.wr.drop (k + 1)) := by simp [tot]
  rw [h1] at h0
  have hv : val (F.wr.getD k []) false ≠ 0 := by rcases hb with e | e <;> rw [e] <;> decide
  have hne : run (F.wr.take k ++ F.wr.drop (k + 1)) (some 0) ≠ some 0 := fun e => by
    have := run_tot _ e
    rw [tot_append] at this
    omega
  simpa using hne
/-- the last bracket closes -/
theorem last_cl : ∀ {F : Fo}, F.Gd → [40] ∈ F.wr → ∃ a b, F.wr = a ++ [41] :: b ∧ ∀ p ∈ b, p ≠ [40] ∧ p ≠ [41]
  | .nil, _, m => nomatch m
  | .leaf p r, g, m => by
    rcases List.mem_cons.mp m with e | e
    · exact absurd e.symm (leaf_ne g.1).1
    · obtain ⟨a, b, h, k⟩ := last_cl g.2 e
      exact ⟨p :: a, b, by rw [Fo.wr, h]; rfl, k⟩
  | .group i r, g, m => by
    by_cases hr : [40] ∈ r.wr
    · obtain ⟨a, b, h, k⟩ := last_cl g.2 hr
      exact ⟨[40] :: (i.wr ++ [41] :: a), b, by rw [Fo.wr, h]; simp, k⟩
    · refine ⟨[40] :: i.wr, r.wr, rfl, fun p hp => ⟨fun e => hr (e ▸ hp), fun e => ?_⟩⟩
      have : ∀ {F : Fo}, F.Gd → [40] ∉ F.wr → [41] ∉ F.wr := by
        intro F
        induction F with
        | nil => intro _ _ h; cases h
        | leaf q s ih =>
          intro g h m
          rcases List.mem_cons.mp m with e | e
          · exact (leaf_ne g.1).2 e.symm
          · exact ih g.2 (fun z => h (.tail _ z)) e
        | group i s _ _ => intro _ h; exact absurd (List.mem_cons_self) h
      exact this g.2 hr (e ▸ hp)
theorem no_op : ∀ {F : Fo}, F.Gd → [40] ∉ F.wr → ∀ p ∈ F.wr, p ≠ [40] ∧ p ≠ [41]
  | .nil, _, _, p, m => nomatch m
  | .leaf q r, g, h, p, m => by
    rcases List.mem_cons.mp m with e | e
    · rw [e]; exact leaf_ne g.1
    · exact no_op g.2 (fun z => h (.tail _ z)) p e
  | .group i r, g, h, p, m => absurd (List.mem_cons_self) h
theorem run_other : ∀ (ps : List (List Nat)), (∀ p ∈ ps, p ≠ [40] ∧ p ≠ [41]) → ∀ st, run ps st = st
  | [], _, st => rfl
  | p :: ps, h, st => by rw [run_cons, stepB_other (h p (.head _)).1 (h p (.head _)).2, run_other ps (fun q hq => h q (.tail _ hq))]
theorem turned_check {F : Fo} (g : F.Gd) : check F.wr.reverse.flatten = decide ([40] ∉ F.wr) := by
  rw [check_pieces fun p m => Fo.pk g p (by simpa using m)]
  by_cases h : [40] ∈ F.wr
  · obtain ⟨a, b, e, k⟩ := last_cl g h
    have : run F.wr.reverse (some 0) = none := by
      rw [e, List.reverse_append, List.reverse_cons, run_append, run_append, run_other b.reverse (fun p hp => k p (by simpa using hp))]
      show run a.reverse none = none
      exact run_none _
    rw [this, decide_eq_false (by simpa using h)]; rfl
  · rw [run_other _ fun p hp => no_op g h p (by simpa using hp), decide_eq_true h]; rfl
end Mine
end
section
open PySem PySem.W PyProof.Rows PySem.Calls
set_option maxRecDepth 100000
namespace Mine
namespace L11
open PySem.Challenge
abbrev df (i : Nat) : DefRec := defAt pw_dm0097_11 i
/-- what the functions of the project lean on -/
structure Pj (G : Gr) : Prop where
  len : G.mg "len" = none
  enum : G.mg "enumerate" = none
  iter : ∃ a, FnAt G (df 1) a
  strip : ∃ a, FnAt G (df 2) a
  check : ∃ a, FnAt G (df 3) a
section
variable {G : Gr} {n : Nat} {env : Env} {σ : St}
theorem iter_ok {l : List Nat} {e target : Expr} {p pos : Pos} (T : Pj G) {a : Addr} (F : FnAt G (df 1) a) (hk : env.kindOf (df 1).name = some .globalImplicit) (h : Ev G (n + 1) env σ e (.str (S l)))
    (hns : noStar [e] = true := by rfl) (hplain : (backTo pos (starEach [e] env)).any (·.1) = false := by rfl) (he : starEach [e] env = (false, eval e env) :: starEach [] env := by rfl) :
    EvID G (n + 1) env σ (.Call (.Name (df 1).name p) [e] [] pos) target ((toks 0 false l).map tokD) := by
  refine EvID.gen1 (x := "addr") F hk h rfl (fun env' A' okc g KF HF FE room hKF => ?_) (hns := hns) (hplain := hplain) (he := he)
  have L0 : Lp G n A' okc (fun _ => False) (fun _ => True) (.func (df 1).body env') [] := ⟨room, fun _ _ _ _ _ _ _ => trivial, rfl, rfl⟩
  refine Gs.cons (Gs.assign room L0.stable .int (FE.loc rfl) rfl ?_)
  refine Gs.cons (Gs.assign room L0.stable .bool (FE.loc rfl) rfl ?_)
  refine Gs.cons (Gs.forA (f := pairS "pos" "ch") (es := enumL (signs (S l))) (fun i (b : Bool) => [("addr", .val (.str (S l))), ("pos", .val (.int ((i - 1 : Nat) : Int))), ("escape", .val (.bool b))]) (fun i b => b = true → 0 < i) (fun i b => (toks i b (l.drop i)).map tokD) false L0 rfl nofun ⟨rfl, rfl, rfl, trivial⟩ (fun _ _ => rfl)
    (.enumS (FE.kind rfl) T.enum (.name rfl)) ?_ ?_ ?_ ?_ (fun _ _ _ _ _ _ => trivial))
  · intro d hd
    obtain ⟨i, hi, rfl⟩ := List.mem_map.mp hd
    exact .pair (FE.loc rfl) (FE.loc rfl)
  · intro d i p
    unfold pairS
    split <;> rfl
  · intro c' fs' FR' Res' KL HL i d b L hd hb next
    obtain ⟨e', he', rfl⟩ := enumL_get.mp hd
    have hc : ∃ c, l[i]? = some c ∧ e' = .str (S [c]) := by
      simp only [signs, List.getElem?_map, Option.map_eq_some_iff] at he'
      obtain ⟨c, hc, rfl⟩ := he'
      exact ⟨c, hc, rfl⟩
    obtain ⟨c, hc, rfl⟩ := hc
    have hlt : i < l.length := (List.getElem?_eq_some_iff.mp hc).1
    have hdrop : l.drop i = c :: l.drop (i + 1) := by
      rw [List.drop_eq_getElem_cons hlt]; congr 1
      exact (List.getElem?_eq_some_iff.mp hc).2
    rw [hdrop]
    cases b with
    | true =>
      refine Gs.cons (Gs.ite L.room L.stable (Tr.plain (Ev.name rfl).b .bool) (fun _ => ?_) nofun)
      refine Gs.cons (Gs.yield (σ' := [("addr", .val (.str (S l))), ("pos", .val (.int i)), ("ch", .val (.str (S [c]))), ("escape", .val (.bool true))]) (d := tokD (i, [92, c])) L.room L.stable L.split rfl L.quiet ((Ev.tuple (.cons (.name rfl) (.cons (.binop .str (.name rfl) (.add_str (sz (by simp [S_length]; decide)))) .nil)) (sz (by simp))).cast rfl) ⟨rfl, rfl, rfl, rfl, trivial⟩ rfl (by rw [FE.scope]; rfl) ?_)
      refine Gs.cons (Gs.assign L.room L.stable .bool (FE.loc rfl) rfl ?_)
      exact Gs.nil (Gs.nil ((next false nofun).of ⟨rfl, rfl, rfl, trivial⟩))
    | false =>
      refine Gs.cons (Gs.ite L.room L.stable (Tr.plain (Ev.name rfl).b .bool) nofun (fun _ => ?_))
      by_cases h92 : c = 92
      · subst h92
        refine Gs.cons (Gs.ite (x := true) L.room L.stable ((Tr.cmp (Ev.name rfl).b Ev.str.b .eq_str).cast rfl) (fun _ => ?_) nofun)
        refine Gs.cons (Gs.assign L.room L.stable .bool (FE.loc rfl) rfl ?_)
        have : (toks i false (92 :: l.drop (i + 1))).map tokD = (toks (i + 1) true (l.drop (i + 1))).map tokD := by rw [toks, if_pos rfl]
        rw [this]
        exact Gs.nil (Gs.nil (Gs.nil ((next true fun _ => Nat.succ_pos _).of ⟨rfl, rfl, rfl, trivial⟩)))
      · refine Gs.cons (Gs.ite (x := false) L.room L.stable ((Tr.cmp (Ev.name rfl).b Ev.str.b .eq_str).cast (by
          rw [show (Str.ofString "\\") = S [92] from rfl]; simp [S_inj, h92])) nofun (fun _ => ?_))
        have : (toks i false (c :: l.drop (i + 1))).map tokD = tokD (i, [c]) :: (toks (i + 1) false (l.drop (i + 1))).map tokD := by rw [toks, if_neg h92]; rfl
        rw [this]
        refine Gs.cons (Gs.yield (σ' := [("addr", .val (.str (S l))), ("pos", .val (.int i)), ("ch", .val (.str (S [c]))), ("escape", .val (.bool false))]) L.room L.stable L.split rfl L.quiet ((Ev.tuple (.cons (.name rfl) (.cons (.name rfl) .nil)) (sz (by simp))).cast rfl) ⟨rfl, rfl, rfl, rfl, trivial⟩ rfl (by rw [FE.scope]; rfl) ?_)
        exact Gs.nil (Gs.nil (Gs.nil ((next false nofun).of ⟨rfl, rfl, rfl, trivial⟩)))
  · intro b hb
    have hlen : (enumL (signs (S l))).length = l.length := by rw [enumL_length]; simp [signs]
    rw [hlen, List.drop_length]
    cases b with
    | true =>
      refine Gs.cons (Gs.ite room L0.stable (Tr.plain (Ev.name rfl).b .bool) (fun _ => ?_) nofun)
      refine Gs.cons (Gs.yield (σ' := []) room L0.stable rfl rfl rfl ((Ev.tuple (.cons (.name rfl) (.cons .str .nil)) (sz (by simp))).cast rfl) trivial rfl (by rw [FE.scope]; rfl) ?_)
      exact Gs.nil (Gs.nil (Gs.fin hKF))
    | false =>
      refine Gs.cons (Gs.ite room L0.stable (Tr.plain (Ev.name rfl).b .bool) nofun (fun _ => ?_))
      exact Gs.nil (Gs.nil (Gs.fin hKF))
end
end L11
end Mine
end
section
open PySem PySem.W PyProof.Rows PySem.Calls
set_option maxRecDepth 100000
namespace Mine
namespace L11
open PySem.Challenge
section
variable {G : Gr} {n : Nat} {env : Env} {σ : St}
def optD : Option Nat → D
  | none => .none
  | some k => .int (k : Nat)
def rowsD (ps : List (List Nat)) : List D := ps.map fun p => .str (S p)
theorem has34 (l : List Nat) : Txt.contains (S l) (S [34]) = decide (34 ∈ l) := by
  unfold Txt.contains
  rw [S_length, occ_one]
  have go : ∀ (l : List Nat) (a : Nat), (pos 34 1 a l).isEmpty = decide (34 ∉ l) := by
    intro l
    induction l with
    | nil => intro a; rfl
    | cons c r ih =>
      intro a
      rw [pos]
      by_cases h : c = 34
      · simp [h]
      · rw [if_neg h, ih]; simp [Ne.symm h]
  rw [go]; simp
set_option maxHeartbeats 4000000 in
theorem strip_ok {l : List Nat} (T : Pj G) (hl : l.length ≤ 3000) {a : Addr} (F : FnAt G (df 2) a) : CallD G (n + 2) (.ref a) [.str (S l)] (.str (S (strip l))) := by
  obtain ⟨ai, FI⟩ := T.iter
  refine CallD.fn1 (x := "addr") F (fun env FE => ?_)
  by_cases h34 : 34 ∈ l
  case neg =>
    refine Ex.cons (Ex1.ite (c := true) ((Tr.cmp Ev.str.b (Ev.name rfl).b .notIn_str).cast (by rw [show (Str.ofString "\"") = S [34] from rfl, has34]; simp [h34])) (fun _ => ?_) nofun)
    exact Ex.cons (Ex1.ret (Ev.name rfl).b (by rw [strip, if_neg h34]))
  refine Ex.cons (Ex1.ite (c := false) ((Tr.cmp Ev.str.b (Ev.name rfl).b .notIn_str).cast (by rw [show (Str.ofString "\"") = S [34] from rfl, has34]; simp [h34])) nofun (fun _ => Ex.nil ?_))
  refine Ex.one (Ex1.assign .int (FE.loc rfl)) ?_
  refine Ex.one (Ex1.assign .none (FE.loc rfl)) ?_
  refine Ex.step (Ex1.assignF (EvF.list .nil (by decide)) (FE.loc rfl)) ?_
  rintro _ ⟨a₀, rfl⟩
  have htl := toks_length l 0 false
  generalize hts : toks 0 false l = ts at htl
  refine Ex.forDJ (ι := Addr) (f := pairS "pos" "ch") (ds := ts.map tokD) (fun i a => [("addr", .val (.str (S l))), ("start", .val (.int ((stripAt l (ts.take i)).1 : Nat))), ("open_pos", .val (optD (stripAt l (ts.take i)).2.1)), ("result", .own a (rowsD (stripAt l (ts.take i)).2.2))]) (fun _ _ => True) a₀ trivial ⟨rfl, rfl, rfl, rfl, trivial⟩ (fun _ _ => by simp; decide)
    (by rw [← hts]; exact iter_ok T FI (FE.kind rfl) (.name rfl)) ?_ ?_ ?_
  · intro d hd
    obtain ⟨t, _, rfl⟩ := List.mem_map.mp hd
    exact .pair (FE.loc rfl) (FE.loc rfl)
  · intro i d p hd _
    rw [List.getElem?_map] at hd
    obtain ⟨t, ht, rfl⟩ := Option.map_eq_some_iff.mp hd
    have hlt : i < ts.length := (List.getElem?_eq_some_iff.mp ht).1
    have htk : ts.take (i + 1) = ts.take i ++ [t] := by rw [List.take_add_one, ht]; rfl
    have hrow := stripAt_rows l (ts.take i)
    rw [List.length_take] at hrow
    rw [htk, stripAt_snoc]
    generalize stripAt l (ts.take i) = st at *
    obtain ⟨start, op, rows⟩ := st
    dsimp only at hrow
    obtain ⟨ps, ch⟩ := t
    by_cases hch : ch = [34]
    · subst hch
      refine Ex.cons (Ex1.ite (c := true) ((Tr.cmp (Ev.name rfl).b Ev.str.b .eq_str).cast rfl) (fun _ => ?_) nofun)
      cases op with
      | none =>
        refine Ex.cons (Ex1.ite (c := true) ((Tr.cmp (Ev.name rfl).b Ev.none.b .none_is)) (fun _ => ?_) nofun)
        exact Ex.one (Ex1.assign (.name rfl) (FE.loc rfl)) (Ex.nil (Ex.nil (Ex.nil ⟨p, trivial, rfl, rfl, rfl, rfl, trivial⟩)))
      | some o =>
        refine Ex.cons (Ex1.ite (c := false) ((Tr.cmp (Ev.name rfl).b Ev.none.b .int_is)) nofun (fun _ => ?_))
        by_cases hso : start = o
        · subst hso
          refine Ex.cons (Ex1.ite (c := false) ((Tr.cmp (Ev.name rfl).b (Ev.name rfl).b .ne_int).cast (by simp)) nofun (fun _ => Ex.nil ?_))
          refine Ex.one (Ex1.assign (.binop (.name rfl) .int .add) (FE.loc rfl)) ?_
          refine Ex.one (Ex1.assign .none (FE.loc rfl)) (Ex.nil (Ex.nil (Ex.nil ⟨p, trivial, rfl, ?_, rfl, ?_, trivial⟩)))
          · rfl
          · simp [stripStep]; rfl
        · refine Ex.cons (Ex1.ite (c := true) ((Tr.cmp (Ev.name rfl).b (Ev.name rfl).b .ne_int).cast (by simp; omega)) (fun _ => ?_) nofun)
          refine Ex.one (Ex1.append rfl ((Ev.itemS (.name rfl) (.slice (.some (.name rfl)) (.some (.name rfl)) .none) (.sliceS rfl rfl rfl nofun (sz (by rw [S_length]; omega)))).cast (d' := .str (S ((l.drop start).take (o - start)))) ?_) (by unfold sizeLine; simp [rowsD]; omega)) (Ex.nil ?_)
          · show D.str (sliceStr (S l) (some (start : Int)) (some (o : Int)) none) = _
            unfold sliceStr
            rw [pickD_run]
          refine Ex.one (Ex1.assign (.binop (.name rfl) .int .add) (FE.loc rfl)) ?_
          refine Ex.one (Ex1.assign .none (FE.loc rfl)) (Ex.nil (Ex.nil (Ex.nil ⟨p, trivial, rfl, ?_, rfl, ?_, trivial⟩)))
          · rfl
          · simp [stripStep, hso, rowsD]; rfl
    · refine Ex.cons (Ex1.ite (c := false) ((Tr.cmp (Ev.name rfl).b Ev.str.b .eq_str).cast (by rw [show (Str.ofString "\"") = S [34] from rfl]; simp [S_inj, hch])) nofun (fun _ => Ex.nil (Ex.nil ⟨p, trivial, ?_⟩)))
      have : stripStep l (start, op, rows) (ps, ch) = (start, op, rows) := by simp [stripStep, hch]
      rw [this]
      exact ⟨rfl, rfl, rfl, rfl, trivial⟩
  · intro p _
    rw [List.length_map, List.take_length]
    have hrow := stripEnd_rows l
    have hat := stripAt_rows l ts
    rw [hts] at hrow
    have hst : strip l = (stripEnd l (stripAt l ts)).flatten := by rw [strip, if_pos h34, hts]
    rw [hst]
    generalize stripAt l ts = st at *
    obtain ⟨start, op, rows⟩ := st
    dsimp only at hat
    have fin : ∀ {ps : List (List Nat)}, ps.length ≤ l.length + 2 → (∀ q ∈ ps, q.length ≤ l.length) → JoinOk (S []) (ps.map S) = true := fun h1 h2 => joinOk_none (by
      have := flatten_le h2
      refine Nat.le_trans this (sz ?_)
      exact Nat.le_trans (Nat.mul_le_mul h1 (Nat.le_refl _)) (Nat.le_trans (Nat.mul_le_mul (by omega : l.length + 2 ≤ 4000) (by omega : l.length ≤ 4000)) (by decide)))
    by_cases hs : start < l.length
    · refine Ex.cons (Ex1.ite (c := true) ((Tr.cmp (Ev.name rfl).b (Ev.call (.builtin (FE.kind rfl) T.len rfl) (.builtin _) (.cons (.name rfl) .nil) (.len_str (by rw [S_length]; omega))).b .lt_int).cast (by rw [S_length]; simp; omega)) (fun _ => ?_) nofun)
      refine Ex.one (Ex1.append rfl ((Ev.itemS (.name rfl) (.slice (.some (.name rfl)) .none .none) (.sliceS rfl rfl rfl nofun (sz (by rw [S_length]; omega)))).cast (d' := .str (S (l.drop start))) ?_) (by unfold sizeLine; simp [rowsD]; omega)) (Ex.nil ?_)
      · show D.str (sliceStr (S l) (some (start : Int)) none none) = _
        unfold sliceStr
        rw [pickD_from]
      have he : stripEnd l (start, op, rows) = rows ++ [l.drop start] := by simp [stripEnd, hs]
      rw [he] at hrow ⊢
      refine Ex.cons (Ex1.ret ((Ev.methB (ds := [.list (((rows ++ [l.drop start]).map S).map .str)]) Ev.str.b .join (.builtin _) (.cons ((EvB.own rfl).castB (by simp [rowsD])) .nil) (.join (fin hrow.1 hrow.2)) rfl).cast (by rw [join_none])).b rfl)
    · refine Ex.cons (Ex1.ite (c := false) ((Tr.cmp (Ev.name rfl).b (Ev.call (.builtin (FE.kind rfl) T.len rfl) (.builtin _) (.cons (.name rfl) .nil) (.len_str (by rw [S_length]; omega))).b .lt_int).cast (by rw [S_length]; simp; omega)) nofun (fun _ => Ex.nil ?_))
      have he : stripEnd l (start, op, rows) = rows := by simp [stripEnd, hs]
      rw [he] at hrow ⊢
      refine Ex.cons (Ex1.ret ((Ev.methB (ds := [.list ((rows.map S).map .str)]) Ev.str.b .join (.builtin _) (.cons ((EvB.own rfl).castB (by simp [rowsD])) .nil) (.join (fin hrow.1 hrow.2)) rfl).cast (by rw [join_none])).b rfl)
set_option maxHeartbeats 4000000 in
theorem check_ok {l : List Nat} (T : Pj G) (hl : l.length ≤ 3000) {a : Addr} (F : FnAt G (df 3) a) : CallD G (n + 3) (.ref a) [.str (S l)] (.bool (check l)) := by
  obtain ⟨ai, FI⟩ := T.iter
  obtain ⟨as, FS⟩ := T.strip
  refine CallD.fn1 (x := "addr") F (fun env FE => ?_)
  refine Ex.one (Ex1.assign (.call (fn_ev FS (FE.kind rfl)) FS.callee (.cons (.name rfl) .nil) (strip_ok T hl FS)) (FE.loc rfl)) ?_
  refine Ex.one (Ex1.assign .int (FE.loc rfl)) ?_
  unfold check
  generalize strip l = m
  have htl := toks_length m 0 false
  unfold sound
  generalize hts : toks 0 false m = ts at htl
  refine Ex.forDJ (ι := Int) (f := pairS "pos" "ch") (ds := ts.map tokD) (fun i k => [("addr", .val (.str (S m))), ("opens", .val (.int k))]) (fun i k => openAt (ts.take i) = some k) 0 rfl ⟨rfl, rfl, trivial⟩ (fun _ _ => by simp; decide)
    (by rw [← hts]; exact iter_ok T FI (FE.kind rfl) (.name rfl)) ?_ ?_ ?_
  · intro d hd
    obtain ⟨t, _, rfl⟩ := List.mem_map.mp hd
    exact .pair (FE.loc rfl) (FE.loc rfl)
  · intro i d k hd hk
    rw [List.getElem?_map] at hd
    obtain ⟨t, ht, rfl⟩ := Option.map_eq_some_iff.mp hd
    have hlt : i < ts.length := (List.getElem?_eq_some_iff.mp ht).1
    have htk : ts.take (i + 1) = ts.take i ++ [t] := by rw [List.take_add_one, ht]; rfl
    have hsplit : ts = ts.take i ++ t :: ts.drop (i + 1) := by
      conv => lhs; rw [← List.take_append_drop i ts]
      rw [List.drop_eq_getElem_cons hlt]
      congr 2
      exact (List.getElem?_eq_some_iff.mp ht).2
    rw [htk, openAt_snoc, hk]
    obtain ⟨ps, ch⟩ := t
    by_cases h40 : ch = [40]
    · subst h40
      refine Ex.cons (Ex1.ite (c := true) ((Tr.cmp (Ev.name rfl).b Ev.str.b .eq_str).cast rfl) (fun _ => ?_) nofun)
      exact Ex.one (Ex1.aug rfl .int (FE.loc rfl) (.inl ⟨rfl, rfl⟩)) (Ex.nil (Ex.nil ⟨k + 1, by simp [openStep], rfl, rfl, trivial⟩))
    · refine Ex.cons (Ex1.ite (c := false) ((Tr.cmp (Ev.name rfl).b Ev.str.b .eq_str).cast (by rw [show (Str.ofString "(") = S [40] from rfl]; simp [S_inj, h40])) nofun (fun _ => ?_))
      by_cases h41 : ch = [41]
      · subst h41
        refine Ex.cons (Ex1.ite (c := true) ((Tr.cmp (Ev.name rfl).b Ev.str.b .eq_str).cast rfl) (fun _ => ?_) nofun)
        refine Ex.one (Ex1.aug rfl .int (FE.loc rfl) (.inr ⟨rfl, rfl⟩)) ?_
        by_cases hneg : k - 1 < 0
        · refine Ex.cons (Ex1.ite (c := true) ((Tr.cmp (Ev.name rfl).b Ev.int.b .lt_int).cast (by simp; omega)) (fun _ => ?_) nofun)
          refine Ex.cons (Ex1.ret Ev.bool.b ?_)
          show Fl.ret (.bool false) = Fl.ret (.bool (openAt ts == some 0))
          have : openAt ts = none := by
            rw [hsplit]
            unfold openAt
            rw [List.foldl_append, List.foldl_cons]
            have : List.foldl openStep (some 0) (ts.take i) = some k := hk
            rw [this, show openStep (some k) (ps, [41]) = none by simp [openStep, hneg]]
            exact openAt_none _
          rw [this]; rfl
        · refine Ex.cons (Ex1.ite (c := false) ((Tr.cmp (Ev.name rfl).b Ev.int.b .lt_int).cast (by simp; omega)) nofun (fun _ => Ex.nil (Ex.nil (Ex.nil (Ex.nil ⟨k - 1, ?_, rfl, rfl, trivial⟩)))))
          simp [openStep]; omega
      · refine Ex.cons (Ex1.ite (c := false) ((Tr.cmp (Ev.name rfl).b Ev.str.b .eq_str).cast (by rw [show (Str.ofString ")") = S [41] from rfl]; simp [S_inj, h41])) nofun (fun _ => Ex.nil (Ex.nil (Ex.nil ⟨k, ?_, rfl, rfl, trivial⟩))))
        simp [openStep, h40, h41]
  · intro k hk
    rw [List.length_map, List.take_length] at hk
    refine Ex.cons (Ex1.ret ((Ev.cmp (Ev.name rfl).b Ev.int.b .eq_int)).b ?_)
    rw [hk]
    show Fl.ret (.bool (k == 0)) = Fl.ret (.bool (some k == some 0))
    rfl
set_option maxHeartbeats 4000000 in
theorem pre_ok {d : D} {ls : List (List Nat)} (T : Pj G) (hl : ∀ l ∈ ls, l.length ≤ 3000) (hn : ls.length ≤ 100000) (hd : IterD G (n + 3) d (rowsD ls)) {a : Addr} (F : FnAt G (df 4) a) : CallD G (n + 4) (.ref a) [d] (.list (rowsD (ls.map pre))) := by
  obtain ⟨ac, FC⟩ := T.check
  refine CallD.fn1 (x := "email_header_fields") F (fun env FE => ?_)
  refine Ex.step (Ex1.assignF (EvF.list .nil (by decide)) (FE.loc rfl)) ?_
  rintro _ ⟨a₀, rfl⟩
  refine Ex.forS (f := fun d => setS "v" (.val d)) (ds := rowsD ls) (fun i a => [("email_header_fields", .val d), ("accepted_values", .own a (rowsD ((ls.take i).map pre)))]) a₀ ⟨rfl, rfl, trivial⟩ (fun _ _ => by simp; decide)
    (.of_ev (.name rfl) hd) (fun d _ => .name (FE.loc rfl)) ?_ ?_
  · intro i d p hd
    unfold rowsD at hd
    rw [List.getElem?_map] at hd
    obtain ⟨l, hl', rfl⟩ := Option.map_eq_some_iff.mp hd
    have hlt : i < ls.length := (List.getElem?_eq_some_iff.mp hl').1
    have htk : ls.take (i + 1) = ls.take i ++ [l] := by rw [List.take_add_one, hl']; rfl
    have h3 := hl l (List.mem_of_getElem? hl')
    have hrow : rowsD ((ls.take (i + 1)).map pre) = rowsD ((ls.take i).map pre) ++ [.str (S (pre l))] := by rw [htk]; simp [rowsD]
    rw [hrow]
    have hz : (rowsD ((ls.take i).map pre)).length < sizeLine := by simp only [rowsD, List.length_map, List.length_take]; unfold sizeLine; omega
    cases hc : check l with
    | true =>
      have hp : pre l = l := by simp [pre, hc]
      refine Ex.cons (Ex1.ite (c := false) ((Tr.not (Tr.plain (Ev.call (fn_ev FC (FE.kind rfl)) FC.callee (.cons (.name rfl) .nil) (check_ok T h3 FC)).b .bool)).cast (by rw [hc]; rfl)) nofun (fun _ => Ex.nil ?_))
      exact Ex.one (Ex1.append rfl (.name rfl) hz) (Ex.nil ⟨p, rfl, by rw [hp]; rfl, trivial⟩)
    | false =>
      have hp : pre l = bad := by simp [pre, hc]
      refine Ex.cons (Ex1.ite (c := true) ((Tr.not (Tr.plain (Ev.call (fn_ev FC (FE.kind rfl)) FC.callee (.cons (.name rfl) .nil) (check_ok T h3 FC)).b .bool)).cast (by rw [hc]; rfl)) (fun _ => ?_) nofun)
      refine Ex.one (Ex1.assign .str (FE.loc rfl)) (Ex.nil ?_)
      exact Ex.one (Ex1.append rfl (.name rfl) hz) (Ex.nil ⟨p, rfl, by rw [hp]; rfl, trivial⟩)
  · intro p
    refine Ex.cons (Ex1.ret (EvB.own rfl) ?_)
    rw [show (rowsD ls).length = ls.length by simp [rowsD], List.take_length]
end
end L11
end Mine
end
section
open PySem PySem.W PyProof.Rows PySem.Calls
set_option maxRecDepth 100000
namespace Mine
namespace L11
open PySem.Challenge
/-- what stands at the top -/
structure Tp (G : Gr) : Prop extends Pj G where
  range : G.mg "range" = none
  sum : G.mg "sum" = none
  min : G.mg "min" = none
  isi : G.mg "isinstance" = none
  strT : G.mg "str" = none
  preF : ∃ a, FnAt G (df 4) a
  tree : ∃ a, FnAt G (df 6) a
  write : ∃ a, FnAt G (df 7) a
  read : ∃ a, FnAt G (df 8) a
section
variable {G : Gr} {n : Nat} {env : Env} {σ : St}
def raws (as : List Addr) : List D := as.map fun a => .raw (.ref a)
theorem raws_snoc (r : List Addr) (z : Addr) : raws (r ++ [z]) = raws r ++ [.raw (.ref z)] := by simp [raws]
def stT (ns : List Int) (a0 ap : Addr) (as : List Addr) : St := [("cells", .val (.list (ns.map .int))), ("tree", .val (.raw (.ref a0))), ("path", .own ap (raws as)), ("leaves", .val (.tuple (rowsD [[98], [92, 40], [34, 41, 34], [92, 34], [34, 40, 92, 34, 34]])))]
def stTn (ns : List Int) (a0 ap : Addr) (as : List Addr) (k : Int) : St := [("cells", .val (.list (ns.map .int))), ("tree", .val (.raw (.ref a0))), ("path", .own ap (raws as)), ("leaves", .val (.tuple (rowsD [[98], [92, 40], [34, 41, 34], [92, 34], [34, 40, 92, 34, 34]]))), ("n", .val (.int k))]
def ctx (st : TS) : List (List D) := (st.1.reverse ++ [st.2]).map Fo.toD
theorem ExR.stepP {as : List Addr} {cs : List (List D)} {st : Stmt} {rest : List Stmt} {Q : Fl → St → List Addr → List (List D) → Prop} {P : St → Prop} (h : Ex1 G n env σ st fun fl σ' => fl = .next ∧ P σ') (hr : ∀ σ', P σ' → ExR G n env σ' as cs rest Q) : ExR G n env σ as cs (st :: rest) Q :=
  .cons (.of (h.mono fun fl σ' p => by obtain ⟨rfl, p⟩ := p; exact hr σ' p))
theorem stT_nd (ns : List Int) (a0 ap : Addr) (as : List Addr) : ((stT ns a0 ap as).map (·.1)).Nodup := by simp [stT]; decide
theorem ctx_short {ns : List Int} {i : Nat} (hn : ns.length ≤ 100) : ∀ c ∈ ctx (treeAt (ns.take i)), c.length < 2 ^ 22 := fun c hc => by
  have := (treeAt_ok (ns.take i)).2.2
  rw [List.length_take] at this
  obtain ⟨F, hF, rfl⟩ := List.mem_map.mp hc
  have h1 := Fo.toD_len F
  have h2 : F.nodes ≤ 100 := by
    rcases List.mem_append.mp hF with h | h
    · have : ∀ (l : List Fo), F ∈ l → F.nodes ≤ sumN l := by
        intro l
        induction l with
        | nil => intro h; cases h
        | cons a r ih =>
          intro h
          simp only [sumN, List.map_cons, List.sum_cons] at ih ⊢
          rcases List.mem_cons.mp h with e | e
          · rw [e]; omega
          · have := ih e; omega
      have := this _ (List.mem_reverse.mp h)
      omega
    · rw [List.mem_singleton.mp h]; omega
  omega
set_option maxHeartbeats 4000000 in
theorem tree_ok {ns : List Int} (T : Tp G) (hn : ns.length ≤ 100) {a : Addr} (F : FnAt G (df 6) a) : CallD G (n + 1) (.ref a) [.list (ns.map .int)] (.list (treeOf ns).toD) := by
  refine CallD.fn1 (x := "cells") F (fun env FE => ?_)
  refine Ex.step (Ex1.assignF (EvF.list .nil (by decide)) (FE.loc rfl)) ?_
  rintro _ ⟨a0, rfl⟩
  refine Ex.open (x := "tree") rfl ?_
  refine ExR.stepP (Ex1.assignF (ds := raws [a0]) (EvF.list (.cons (.name rfl) .nil) (by show 1 ≤ sizeLine; decide)) (FE.loc rfl)) ?_
  rintro _ ⟨ap, rfl⟩
  refine ExR.oneP (Ex1.assign (d := .tuple (rowsD [[98], [92, 40], [34, 41, 34], [92, 34], [34, 40, 92, 34, 34]])) (Ev.tuple (.cons .str (.cons .str (.cons .str (.cons .str (.cons .str .nil))))) (by decide)) (FE.loc rfl)) ?_
  refine ExR.only (σ₀ := stT ns a0 ap [a0]) ⟨rfl, rfl, rfl, rfl, trivial⟩ ?_ (stT_nd ..)
  refine ExR.cons (ExR1.for (f := fun d => setS "n" (.val d)) (ds := ns.map .int) (.name rfl) .list (fun d _ => .name (FE.loc rfl))
    (fun i σ₁ as₁ cs₁ => ∃ ap, Sub (stT ns a0 ap as₁) σ₁ ∧ as₁.head? = some a0 ∧ as₁.length = (treeAt (ns.take i)).1.length + 1 ∧ cs₁ = ctx (treeAt (ns.take i))) ⟨ap, Sub.refl' (stT_nd ..), rfl, rfl, rfl⟩ ?_ ?_)
  · rintro i d σ₁ as cs hd ⟨ap, hsub, hhd, hlen, rfl⟩
    rw [List.getElem?_map] at hd
    obtain ⟨k, hk, rfl⟩ := Option.map_eq_some_iff.mp hd
    have hlt : i < ns.length := (List.getElem?_eq_some_iff.mp hk).1
    have htk : ns.take (i + 1) = ns.take i ++ [k] := by rw [List.take_add_one, hk]; rfl
    have hz := ctx_short (i := i) hn
    have hok := treeAt_ok (ns.take i)
    rw [List.length_take] at hok
    rw [htk, treeAt_snoc]
    generalize treeAt (ns.take i) = st at *
    obtain ⟨os, c⟩ := st
    dsimp only at hlen hok
    obtain ⟨r, z, rfl⟩ : ∃ r z, as = r ++ [z] := by
      have hne : as ≠ [] := fun e => by rw [e] at hlen; simp at hlen
      exact ⟨as.dropLast, as.getLast hne, (List.dropLast_concat_getLast hne).symm⟩
    have hrl : r.length = os.length := by simpa using hlen
    have hgl : (r ++ [z]).getLast? = some z := by simp
    have hsub' := Sub.set (x := "n") (s := .val (.int k)) hsub (by simp [stT]; decide)
    refine ExR.only (σ₀ := stTn ns a0 ap (r ++ [z]) k) ⟨hsub'.1, hsub'.2.1, hsub'.2.2.1, hsub'.2.2.2.1, lookup_setS_self _, trivial⟩ ?_ (by simp [stTn]; decide)
    refine ExR.oneP (Ex1.assign ((Ev.binop (.name rfl) .int (.mod (by decide)))) (FE.loc rfl)) ?_
    have hm : 0 ≤ k.fmod 9 ∧ k.fmod 9 < 9 := ⟨Int.fmod_nonneg_of_pos _ (by decide), Int.fmod_lt_of_pos _ (by decide)⟩
    have last : ∀ {σ : St} {p1 p2 p3 p4 : Pos} {kk : Nat}, σ.lookup ("path" : Str) = some (.own ap (raws (r ++ [z]))) → Ev G n env σ (.Subscript (.Name "path" p1) (.UnaryOp .USub (.Constant (.int 1) kk p2) p3) p4) (.raw (.ref z)) := fun hl =>
      Ev.itemOwn (d := .raw (.ref z)) hl (.neg .int) (.inr ⟨by decide, by simp [raws]; omega, by decide, by
        have e : (-1 + ((raws (r ++ [z])).length : Int)).toNat = r.length := by simp [raws]; omega
        rw [e]; simp [raws]⟩)
    unfold stepT
    dsimp only
    by_cases h2 : k.fmod 9 < 2
    · rw [if_pos h2]
      refine ExR.cons (ExR1.ite (c := true) ((Tr.cmp (Ev.name rfl).b Ev.int.b .lt_int).cast (decide_eq_true h2)) (fun _ => ?_) nofun)
      refine ExR.stepP (Ex1.assignF (EvF.list .nil (by decide)) (FE.loc rfl)) ?_
      rintro _ ⟨g, rfl⟩
      refine ExR.one (ExR1.pushAt (x := "group") (last rfl) rfl hgl hz) ?_
      refine ExR.oneP (Ex1.append rfl (.name rfl) ?_) (ExR.nil (ExR.nil ?_))
      · simp [raws]; unfold sizeLine; omega
      · refine ⟨ap, ⟨rfl, rfl, ?_, rfl, trivial⟩, ?_, ?_, ?_⟩
        · show List.lookup _ _ = _
          simp [raws]; rfl
        · rw [List.head?_append, hhd]; rfl
        · simp; omega
        · simp [ctx]; rfl
    · rw [if_neg h2]
      refine ExR.cons (ExR1.ite (c := false) ((Tr.cmp (Ev.name rfl).b Ev.int.b .lt_int).cast (decide_eq_false h2)) nofun (fun _ => ?_))
      by_cases h3 : k.fmod 9 > 3
      · rw [if_pos h3]
        refine ExR.cons (ExR1.ite (c := true) ((Tr.cmp (Ev.name rfl).b Ev.int.b .gt_int).cast (decide_eq_true h3)) (fun _ => ?_) nofun)
        refine ExR.one (ExR1.appendAt (d := .str (S (leafAt (k.fmod 9 - 4).toNat))) (last rfl) (Ev.itemT (.name rfl) (.binop (.name rfl) .int .sub) (.tuple (by omega) (by omega) ?_)) hgl hz) (ExR.nil (ExR.nil (ExR.nil ?_)))
        · have h4 : (k.fmod 9 - 4).toNat < 5 := by omega
          generalize (k.fmod 9 - 4).toNat = j at h4
          match j, h4 with
          | 0, _ => rfl
          | 1, _ => rfl
          | 2, _ => rfl
          | 3, _ => rfl
          | 4, _ => rfl
        · refine ⟨ap, ⟨rfl, rfl, rfl, rfl, trivial⟩, hhd, hlen, ?_⟩
          simp only [ctx, List.map_append, List.map_cons, List.map_nil]
          rw [addLast_snoc, Fo.snoc_toD]; rfl
      · rw [if_neg h3]
        refine ExR.cons (ExR1.ite (c := false) ((Tr.cmp (Ev.name rfl).b Ev.int.b .gt_int).cast (decide_eq_false h3)) nofun (fun _ => ?_))
        have lenp : ∀ {σ : St} {p1 p2 p3 : Pos}, σ.lookup ("path" : Str) = some (.own ap (raws (r ++ [z]))) → Ev G n env σ (.Call (.Name "len" p1) [.Name "path" p2] [] p3) (.int ((r.length + 1 : Nat) : Int)) := fun hl =>
          (Ev.callB (.builtin (FE.kind rfl) T.len rfl) (.builtin _) (.cons (.own hl) .nil) (.len_list (by simp [raws]; omega)) rfl).cast (by simp [raws])
        cases os with
        | nil =>
          have hr0 : r = [] := List.eq_nil_of_length_eq_zero hrl
          subst hr0
          have hz0 : z = a0 := by simpa using hhd
          subst hz0
          refine ExR.cons (ExR1.ite (c := false) ((Tr.cmp (lenp rfl).b Ev.int.b .gt_int).cast (by simp)) nofun (fun _ => ?_))
          refine ExR.one (ExR1.appendAt (d := .str (S [92, 41])) (.name rfl) .str hgl hz) (ExR.nil (ExR.nil (ExR.nil (ExR.nil ?_))))
          refine ⟨ap, ⟨rfl, rfl, rfl, rfl, trivial⟩, hhd, hlen, ?_⟩
          simp only [ctx, List.reverse_nil, List.nil_append, List.map_cons, List.map_nil]
          rw [Fo.snoc_toD]; rfl
        | cons o os =>
          refine ExR.cons (ExR1.ite (c := true) ((Tr.cmp (lenp rfl).b Ev.int.b .gt_int).cast (by rw [hrl]; simp; omega)) (fun _ => ?_) nofun)
          refine ExR.oneP (Ex1.popAny (d := .raw (.ref z)) (ds := raws r) (by show some (Slot.own ap (raws (r ++ [z]))) = _; rw [raws_snoc]) (by have h5 := hok.2.2; simp only [List.length_cons] at h5 hrl; simp only [raws, List.length_map]; omega)) ?_
          have hctx : ctx (o :: os, c) = (os.reverse.map Fo.toD) ++ [o.toD, c.toD] := by simp [ctx]
          rw [hctx]
          refine ExR.close (ExR.nil (ExR.nil (ExR.nil (ExR.nil ?_))))
          refine ⟨ap, ⟨rfl, rfl, rfl, rfl, trivial⟩, ?_, by simpa using hrl, ?_⟩
          · cases r with
            | nil => simp at hrl
            | cons b r => simpa using hhd
          · simp only [ctx, List.map_append, List.map_cons, List.map_nil]
            rw [Fo.snoc_toD]; rfl
  · rintro σ₁ as cs ⟨ap, hsub, hhd, hlen, rfl⟩
    rw [List.length_map, List.take_length] at *
    refine ExR.only hsub ?_ (stT_nd ..)
    refine ExR.cons (ExR1.retRoot (.name rfl) hhd ?_)
    show Fl.ret _ = Fl.ret _
    unfold ctx treeOf
    rw [closeF_D]
end
end L11
end Mine
end
section
open PySem PySem.W PyProof.Rows PySem.Calls
set_option maxRecDepth 100000
namespace Mine
namespace L11
open PySem.Challenge
section
variable {G : Gr} {n : Nat} {env : Env} {σ : St}
theorem rowsD_atomic (ps : List (List Nat)) : ∀ d ∈ rowsD ps, Atomic d = true := fun d h => by
  obtain ⟨p, _, rfl⟩ := List.mem_map.mp h; rfl
theorem rowsD_len (ps : List (List Nat)) : (rowsD ps).length = ps.length := by simp [rowsD]
theorem rowsD_app (ps qs : List (List Nat)) : rowsD (ps ++ qs) = rowsD ps ++ rowsD qs := by simp [rowsD]
def itw (its : List It) : List (List Nat) := (its.map It.w).flatten
theorem itw_app (a b : List It) : itw (a ++ b) = itw a ++ itw b := by simp [itw]
theorem itw_take_le (its : List It) (i : Nat) : (itw (its.take i)).length ≤ (itw its).length := by
  conv => rhs; rw [← List.take_append_drop i its, itw_app, List.length_append]
  omega
set_option maxHeartbeats 4000000 in
theorem write_step {m : Nat} {F : Fo} (T : Tp G) {a : Addr} (Fw : FnAt G (df 7) a) (hn : F.nodes ≤ 100) (ih : ∀ i, It.group i ∈ F.items → CallD G m (.ref a) [.list i.toD] (.list (rowsD i.wr))) :
    CallD G (m + 1) (.ref a) [.list F.toD] (.list (rowsD F.wr)) := by
  have hwl := Fo.wr_len F
  have hw : F.wr = itw F.items := Fo.wr_items F
  refine CallD.fn1 (x := "tree") Fw (fun env FE => ?_)
  refine Ex.step (Ex1.assignF (EvF.list .nil (by decide)) (FE.loc rfl)) ?_
  rintro _ ⟨a₀, rfl⟩
  refine Ex.forS (ι := Addr) (f := fun d => setS "part" (.val d)) (ds := F.items.map It.d) (fun i p => [("tree", .val (.list F.toD)), ("pieces", .own p (rowsD (itw (F.items.take i))))]) a₀ ⟨rfl, rfl, trivial⟩ (fun _ _ => by simp; decide)
    (by rw [← Fo.toD_items]; exact .of_ev (.name rfl) .list) (fun d _ => .name (FE.loc rfl)) ?_ ?_
  · intro i d p hd
    rw [List.getElem?_map] at hd
    obtain ⟨t, ht, rfl⟩ := Option.map_eq_some_iff.mp hd
    have hmem := List.mem_of_getElem? ht
    have htk : itw (F.items.take (i + 1)) = itw (F.items.take i) ++ t.w := by rw [List.take_add_one, ht]; simp [itw]
    have hle := itw_take_le F.items (i + 1)
    rw [← hw] at hle
    rw [htk] at hle ⊢
    rw [List.length_append] at hle
    generalize itw (F.items.take i) = ps at hle
    cases t with
    | leaf q =>
      refine Ex.cons (Ex1.ite (c := true) (Tr.plain (Ev.call (.builtin (FE.kind rfl) T.isi rfl) (.builtin _) (.cons (.name rfl) (.cons (.builtin (FE.kind rfl) T.strT rfl) .nil)) .isi_str_str).b .bool) (fun _ => ?_) nofun)
      exact Ex.one (Ex1.append rfl (.name rfl) (by rw [rowsD_len]; unfold sizeLine; omega)) (Ex.nil (Ex.nil ⟨p, rfl, by rw [rowsD_app]; rfl, trivial⟩))
    | group g =>
      have hg : ps.length + (g.wr.length + 2) ≤ F.wr.length := by simp [It.w] at hle; omega
      refine Ex.cons (Ex1.ite (c := false) (Tr.plain (Ev.call (.builtin (FE.kind rfl) T.isi rfl) (.builtin _) (.cons (.name rfl) (.cons (.builtin (FE.kind rfl) T.strT rfl) .nil)) .isi_list_str).b .bool) nofun (fun _ => ?_))
      refine Ex.step (Ex1.assignF (ds := ((rowsD ps ++ rowsD [[40]]) ++ rowsD g.wr) ++ rowsD [[41]]) (EvF.addA (EvF.addA (EvF.addA (EvB.own rfl) (Ev.list (ds := rowsD [[40]]) (.cons .str .nil) (by decide)).b (rowsD_atomic _) (rowsD_atomic _) ?_).ev.b
        (Ev.call (fn_ev Fw (FE.kind rfl)) Fw.callee (.cons (.name rfl) .nil) (ih g hmem)).b ?_ (rowsD_atomic _) ?_).ev.b (Ev.list (ds := rowsD [[41]]) (.cons .str .nil) (by decide)).b ?_ (rowsD_atomic _) ?_) (FE.loc rfl)) ?_
      · rw [rowsD_len, rowsD_len]; unfold sizeLine; simp; omega
      · rw [← rowsD_app]; exact rowsD_atomic _
      · rw [← rowsD_app, rowsD_len, rowsD_len]; unfold sizeLine; simp; omega
      · rw [← rowsD_app, ← rowsD_app]; exact rowsD_atomic _
      · rw [← rowsD_app, ← rowsD_app, rowsD_len, rowsD_len]; unfold sizeLine; simp; omega
      rintro _ ⟨a', rfl⟩
      refine Ex.nil (Ex.nil ⟨a', rfl, ?_, trivial⟩)
      rw [← rowsD_app, ← rowsD_app, ← rowsD_app]
      have e : ps ++ (It.group g).w = ps ++ [[40]] ++ g.wr ++ [[41]] := by simp [It.w]
      rw [e]; rfl
  · intro p
    refine Ex.cons (Ex1.ret (EvB.own rfl) ?_)
    rw [List.length_map, List.take_length, hw]
theorem write_ok (T : Tp G) {a : Addr} (Fw : FnAt G (df 7) a) : ∀ (d : Nat) (F : Fo), F.depth ≤ d → F.nodes ≤ 100 → CallD G (n + d + 1) (.ref a) [.list F.toD] (.list (rowsD F.wr))
  | 0, F, h1, h2 => write_step T Fw h2 fun i hi => by have := (Fo.depth_items hi).1; omega
  | d + 1, F, h1, h2 => write_step T Fw h2 fun i hi => by
    have := Fo.depth_items hi
    exact write_ok T Fw d i (by omega) (by omega)
end
end L11
end Mine
end
section
open PySem PySem.W PyProof.Rows PySem.Calls
set_option maxRecDepth 100000
namespace Mine
namespace L11
open PySem.Challenge
theorem run_item {t : It} (g : t.Gd) {k : Int} (hk : 0 ≤ k) : run t.w (some k) = some k := by
  cases t with
  | leaf p => show stepB (some k) p = some k; exact stepB_other (leaf_ne g).1 (leaf_ne g).2
  | group i =>
    rw [It.w, run_cons, stepB_op, run_append, run_wr g (by omega), run_cons, stepB_cl (by omega), show k + 1 - 1 = k by omega]; rfl
theorem run_itw : ∀ {its : List It}, (∀ t ∈ its, t.Gd) → ∀ {k : Int}, 0 ≤ k → run (itw its) (some k) = some k
  | [], _, k, _ => rfl
  | t :: its, g, k, hk => by
    have : itw (t :: its) = t.w ++ itw its := by simp [itw]
    rw [this, run_append, run_item (g t (.head _)) hk, run_itw (fun u hu => g u (.tail _ hu)) hk]
theorem It.w_pos (t : It) : 1 ≤ t.w.length := by cases t <;> simp [It.w]
/-- how many pieces the first i items are -/
def B (F : Fo) (i : Nat) : Nat := (itw (F.items.take i)).length
theorem B_succ {F : Fo} {i : Nat} {t : It} (h : F.items[i]? = some t) : B F (i + 1) = B F i + t.w.length := by
  unfold B; rw [List.take_add_one, h]; simp [itw]
theorem B_all (F : Fo) : B F F.items.length = F.wr.length := by unfold B; rw [List.take_length, Fo.wr_items]; rfl
theorem B_le (F : Fo) (i : Nat) : B F i ≤ F.wr.length := by
  have := itw_take_le F.items i
  rw [Fo.wr_items]; exact this
theorem wr_split {F : Fo} {i : Nat} {t : It} (h : F.items[i]? = some t) : F.wr = itw (F.items.take i) ++ (t.w ++ itw (F.items.drop (i + 1))) := by
  have hlt : i < F.items.length := (List.getElem?_eq_some_iff.mp h).1
  have : F.items = F.items.take i ++ t :: F.items.drop (i + 1) := by
    conv => lhs; rw [← List.take_append_drop i F.items]
    rw [List.drop_eq_getElem_cons hlt]
    congr 2
    exact (List.getElem?_eq_some_iff.mp h).2
  conv => lhs; rw [Fo.wr_items, this]
  simp [itw]
theorem wr_take {F : Fo} {i k : Nat} {t : It} (h : F.items[i]? = some t) (h1 : B F i ≤ k) (h2 : k ≤ B F (i + 1)) : F.wr.take k = itw (F.items.take i) ++ t.w.take (k - B F i) := by
  have hb := B_succ h
  rw [wr_split h, List.take_append, List.take_of_length_le h1, List.take_append]
  unfold B at *
  rw [show k - (itw (List.take i F.items)).length - t.w.length = 0 by omega]
  simp
theorem head_check {F : Fo} (g : F.Gd) {i k : Nat} {t : It} (h : F.items[i]? = some t) (h1 : B F i < k) (h2 : k ≤ B F (i + 1)) : check (F.wr.take k).flatten = decide (k = B F (i + 1)) := by
  have hb := B_succ h
  have hg := Fo.gd_items g
  have ht := hg t (List.mem_of_getElem? h)
  rw [check_pieces fun p m => Fo.pk g p (List.mem_of_mem_take m), wr_take h (by omega) h2, run_append, run_itw (fun u hu => hg u (List.mem_of_mem_take hu)) (by omega)]
  by_cases hk : k = B F (i + 1)
  · rw [decide_eq_true hk, List.take_of_length_le (by omega), run_item ht (by omega)]; rfl
  · rw [decide_eq_false hk]
    cases t with
    | leaf p => simp [It.w] at hb; omega
    | group q =>
      have hl : (It.group q).w.length = q.wr.length + 2 := by simp [It.w]
      obtain ⟨m, hm, e⟩ := run_group (i := q) ht (j := k - B F i) (by omega) (by omega)
      rw [e]
      have : m ≠ 0 := by omega
      simpa using this
theorem head_ne {F : Fo} (g : F.Gd) (k : Nat) : (F.wr.take k).flatten ≠ bad := fun e => by
  have h39 : 39 ∈ (F.wr.take k).flatten := by rw [e]; decide
  obtain ⟨p, hp, hm⟩ := List.mem_flatten.mp h39
  exact (Fo.pk g p (List.mem_of_mem_take hp)).good.2.2.2 hm
theorem head_pre {F : Fo} (g : F.Gd) {i k : Nat} {t : It} (h : F.items[i]? = some t) (h1 : B F i < k) (h2 : k ≤ B F (i + 1)) : decide (S (pre (F.wr.take k).flatten) = S (F.wr.take k).flatten) = decide (k = B F (i + 1)) := by
  have hc := head_check g h h1 h2
  unfold pre
  rw [hc]
  by_cases hk : k = B F (i + 1)
  · simp [hk]
  · rw [decide_eq_false hk]
    simp only [Bool.false_eq_true, if_false, decide_eq_false_iff_not, S_inj]
    exact fun e => head_ne g k e.symm
theorem flat_len {ps : List (List Nat)} (h : ∀ p ∈ ps, Pk p) : ps.flatten.length ≤ ps.length * 5 := flatten_le fun p hp => (h p hp).good.2.1
def headsOf (P : List (List Nat)) : List (List Nat) := (List.range (P.length + 1)).map fun k => (P.take k).flatten
section
variable {G : Gr} {n : Nat} {env : Env} {σ : St}
theorem rowsD_get {P : List (List Nat)} {i : Nat} (h : i < P.length) : (rowsD P)[i]? = some (.str (S (P.getD i []))) := by
  unfold rowsD
  rw [List.getElem?_map, List.getElem?_eq_getElem h]
  simp [List.getD, h]
theorem rowsD_pick (P : List (List Nat)) (lo hi st : Option Int) : pickD (rowsD P) lo hi st = rowsD (pickD P lo hi st) := pickD_map ..
theorem rowsD_map (P : List (List Nat)) : (P.map S).map D.str = rowsD P := by simp [rowsD]
set_option maxHeartbeats 8000000 in
theorem read_step {m : Nat} {F : Fo} (T : Tp G) {a : Addr} (Fr : FnAt G (df 8) a) (hn : F.nodes ≤ 100) (g : F.Gd) (ih : ∀ i, It.group i ∈ F.items → CallD G (m + 4) (.ref a) [.list (rowsD i.wr)] (.list i.toD)) :
    CallD G (m + 5) (.ref a) [.list (rowsD F.wr)] (.list F.toD) := by
  have hwl := Fo.wr_len F
  obtain ⟨aP, FP⟩ := T.preF
  have hpk := Fo.pk g
  refine CallD.fn1 (x := "pieces") Fr (fun env FE => ?_)
  have len : ∀ {m : Nat} {σ : St} {p1 p2 p3 : Pos}, σ.lookup ("pieces" : Str) = some (.val (.list (rowsD F.wr))) → Ev G m env σ (.Call (.Name "len" p1) [.Name "pieces" p2] [] p3) (.int (F.wr.length : Nat)) := fun hl =>
    (Ev.call (.builtin (FE.kind rfl) T.len rfl) (.builtin _) (.cons (.name hl) .nil) (.len_list (by rw [rowsD_len]; omega))).cast (by rw [rowsD_len])
  -- heads
  refine Ex.step (Ex1.assignComp (CompOk.mk' (σc := [("pieces", .val (.list (rowsD F.wr)))]) (ds := nums (List.range (F.wr.length + 1))) (f := fun d => setS "k" (.val d)) (keep := fun _ => true)
      (res := fun d => .str (S (F.wr.take (posOf d)).flatten)) (out := rowsD (headsOf F.wr)) FE ⟨⟨rfl, rfl, FE.kind rfl⟩, trivial⟩
      (.of_ev ((Ev.call (.builtin (FE.kind rfl) T.range rfl) (.type _) (.cons (.binop (len rfl) .int .add) .nil) .range)) ?_) (fun d _ => ⟨rfl, trivial⟩) (fun cenv CE d hd => ?_) ?_ ?_) (FE.loc rfl) (FE.swaps fun _ => rfl)) ?_
  · rw [show ((F.wr.length : Nat) : Int) + 1 = ((F.wr.length + 1 : Nat) : Int) by omega, ← rng_nums]
    exact .rng (by decide) (by decide) (by omega) (by omega)
  · obtain ⟨k, hk, rfl⟩ := List.mem_map.mp hd
    refine ⟨.name (CE.loc rfl), .nil, fun _ => ?_⟩
    have hfl := flat_len (ps := F.wr.take k) fun p hp => hpk p (List.mem_of_mem_take hp)
    rw [List.length_take] at hfl
    refine (Ev.meth (ds := [.list (((F.wr.take k).map S).map .str)]) (.str (x := S [])) .join (.builtin _) (.cons ((Ev.item (.name rfl) (.slice .none (.some (.name rfl)) .none) (.slice rfl rfl rfl nofun (by rw [rowsD_len]; unfold sizeLine; omega))).cast ?_) .nil) (.join (joinOk_none (sz (by omega))))).cast ?_
    · show D.list (pickD (rowsD F.wr) none (some ((k : Nat) : Int)) none) = _
      rw [pickD_upto, rowsD_map]; simp [rowsD]
    · rw [join_none]; simp [posOf]
  · simp [nums]; unfold sizeLine; omega
  · rw [List.filter_eq_self.mpr (by simp), nums_map _ fun j => .str (S (F.wr.take j).flatten)]; simp [headsOf, rowsD]
  rintro _ ⟨ah, rfl⟩
  refine Ex.freeze (x := "heads") rfl ?_
  -- kept
  have hhl : (headsOf F.wr).length = F.wr.length + 1 := by simp [headsOf]
  refine Ex.one (Ex1.assign (d := .list (rowsD ((headsOf F.wr).map pre))) (.call (fn_ev FP (FE.kind rfl)) FP.callee (.cons (.name rfl) .nil) (pre_ok (n := m) T.toPj ?_ ?_ .list FP)) (FE.loc rfl)) ?_
  · intro l hl
    obtain ⟨k, _, rfl⟩ := List.mem_map.mp hl
    have hfl := flat_len (ps := F.wr.take k) fun p hp => hpk p (List.mem_of_mem_take hp)
    rw [List.length_take] at hfl
    omega
  · rw [hhl]; omega
  refine Ex.step (Ex1.assignF (EvF.list .nil (by decide)) (FE.loc rfl)) ?_
  rintro _ ⟨a₀, rfl⟩
  refine Ex.one (Ex1.assign .int (FE.loc rfl)) ?_
  have hB0 : B F 0 = 0 := rfl
  refine Ex.forJ (ι := Addr × Nat) (f := fun d => setS "k" (.val d)) (ds := rngList 1 (((F.wr.length : Nat) : Int) + 1)) (fun t p => [("pieces", .val (.list (rowsD F.wr))), ("heads", .val (.list (rowsD (headsOf F.wr)))), ("kept", .val (.list (rowsD ((headsOf F.wr).map pre)))), ("tree", .own p.1 ((F.items.take p.2).map It.d)), ("start", .val (.int ((B F p.2 : Nat) : Int)))])
    (fun t p => B F p.2 ≤ t ∧ p.2 ≤ F.items.length ∧ (p.2 < F.items.length → t < B F (p.2 + 1))) (a₀, 0) ⟨by rw [hB0]; exact Nat.le_refl _, Nat.zero_le _, fun h => by
      show 0 < B F (0 + 1); have h : 0 < F.items.length := h; have e := B_succ (List.getElem?_eq_getElem h); have := It.w_pos F.items[0]; rw [e]; omega⟩ ⟨rfl, rfl, rfl, rfl, rfl, trivial⟩ (fun _ _ => by simp; decide)
    (.of_ev (Ev.call (.builtin (FE.kind rfl) T.range rfl) (.type _) (.cons .int (.cons (.binop (len rfl) .int .add) .nil)) .range2) (.rng (by decide) (by decide) (by omega) (by omega))) (fun d _ => .name (FE.loc rfl)) ?_ ?_
  · intro t d p hd hJ
    obtain ⟨ht, rfl⟩ := rng1_get hd
    obtain ⟨ap, i⟩ := p
    obtain ⟨h1, h2, h3⟩ := hJ
    dsimp only at h1 h2 h3 ⊢
    have hi : i < F.items.length := by
      rcases Nat.lt_or_ge i F.items.length with h | h
      · exact h
      · have : i = F.items.length := by omega
        rw [this, B_all] at h1; omega
    have h4 := h3 hi
    have hit : F.items[i]? = some F.items[i] := List.getElem?_eq_getElem hi
    generalize F.items[i] = it at hit
    have hbs := B_succ hit
    have hble := B_le F (i + 1)
    have hpre := head_pre g hit (k := t + 1) (by omega) (by omega)
    have hhd : ∀ {σ : St} {p1 p2 p3 : Pos}, σ.lookup ("heads" : Str) = some (.val (.list (rowsD (headsOf F.wr)))) → σ.lookup ("k" : Str) = some (.val (.int ((t + 1 : Nat) : Int))) → Ev G (m + 4) env σ (.Subscript (.Name "heads" p1) (.Name "k" p2) p3) (.str (S (F.wr.take (t + 1)).flatten)) := fun e1 e2 =>
      Ev.item (.name e1) (.name e2) (.list (by omega) (by omega) (by
        rw [Int.toNat_natCast, rowsD_get (by omega)]
        congr 3
        simp only [headsOf, List.getD_eq_getElem?_getD, List.getElem?_map, List.getElem?_range (show t + 1 < F.wr.length + 1 by omega)]; rfl))
    have hkp : ∀ {σ : St} {p1 p2 p3 : Pos}, σ.lookup ("kept" : Str) = some (.val (.list (rowsD ((headsOf F.wr).map pre)))) → σ.lookup ("k" : Str) = some (.val (.int ((t + 1 : Nat) : Int))) → Ev G (m + 4) env σ (.Subscript (.Name "kept" p1) (.Name "k" p2) p3) (.str (S (pre (F.wr.take (t + 1)).flatten))) := fun e1 e2 =>
      Ev.item (.name e1) (.name e2) (.list (by omega) (by omega) (by
        rw [Int.toNat_natCast, rowsD_get (by rw [List.length_map]; omega)]
        congr 3
        simp only [headsOf, List.map_map, List.getD_eq_getElem?_getD, List.getElem?_map, List.getElem?_range (show t + 1 < F.wr.length + 1 by omega)]; rfl))
    by_cases hk : t + 1 = B F (i + 1)
    · refine Ex.cons (Ex1.ite (c := true) ((Tr.cmp (hkp rfl rfl).b (hhd rfl rfl).b .eq_str).cast (by rw [hpre]; simp [hk])) (fun _ => ?_) nofun)
      have htake : (F.items.take (i + 1)).map It.d = (F.items.take i).map It.d ++ [it.d] := by rw [List.take_add_one, hit]; simp
      have hJ' : B F (i + 1) ≤ t + 1 ∧ i + 1 ≤ F.items.length ∧ (i + 1 < F.items.length → t + 1 < B F (i + 1 + 1)) := ⟨by omega, hi, fun h => by
        have e := B_succ (List.getElem?_eq_getElem h); have := It.w_pos F.items[i + 1]; omega⟩
      have hzl : ((F.items.take i).map It.d).length < sizeLine := by
        have : (F.items.map It.d).length ≤ F.nodes := by rw [← Fo.toD_items]; exact Fo.toD_len F
        rw [List.length_map] at this
        rw [List.length_map, List.length_take]; unfold sizeLine; omega
      have hsp := wr_split hit
      cases it with
      | leaf q =>
        have hw1 : (It.leaf q).w.length = 1 := rfl
        refine Ex.cons (Ex1.ite (c := true) ((Tr.cmp (Ev.binop (.name rfl) (.name rfl) .sub).b Ev.int.b .eq_int).cast (by simp; omega)) (fun _ => ?_) nofun)
        refine Ex.one (Ex1.append rfl (d := (It.leaf q).d) (Ev.item (.name rfl) (.name rfl) (.list (by omega) (by omega) ?_)) hzl) (Ex.nil ?_)
        · rw [Int.toNat_natCast, rowsD_get (by omega)]
          have : F.wr.getD (B F i) [] = q := by
            rw [hsp, List.getD_eq_getElem?_getD, List.getElem?_append_right (by unfold B; omega)]
            unfold B
            simp [It.w]
          rw [this]; rfl
        · exact Ex.one (Ex1.assign (.name rfl) (FE.loc rfl)) (Ex.nil (Ex.nil ⟨(ap, i + 1), hJ', rfl, rfl, rfl, (by dsimp only; rw [htake]; rfl), (by dsimp only; rw [← hk]; rfl), trivial⟩))
      | group q =>
        have hw1 : (It.group q).w.length = q.wr.length + 2 := by simp [It.w]
        refine Ex.cons (Ex1.ite (c := false) ((Tr.cmp (Ev.binop (.name rfl) (.name rfl) .sub).b Ev.int.b .eq_int).cast (by simp; omega)) nofun (fun _ => ?_))
        refine Ex.one (Ex1.append rfl (d := (It.group q).d) (Ev.call (fn_ev Fr (FE.kind rfl)) Fr.callee (.cons ((Ev.item (.name rfl) (.slice (.some (.binop (.name rfl) .int .add)) (.some (.binop (.name rfl) .int .sub)) .none) (.slice rfl rfl rfl nofun (by rw [rowsD_len]; unfold sizeLine; omega))).cast ?_) .nil) (ih q (List.mem_of_getElem? hit))) hzl) (Ex.nil ?_)
        · show D.list (pickD (rowsD F.wr) (some (((B F i : Nat) : Int) + 1)) (some (((t + 1 : Nat) : Int) - 1)) none) = _
          rw [rowsD_pick, show ((B F i : Nat) : Int) + 1 = ((B F i + 1 : Nat) : Int) by omega, show ((t + 1 : Nat) : Int) - 1 = ((t : Nat) : Int) by omega, pickD_run]
          have : (F.wr.drop (B F i + 1)).take (t - (B F i + 1)) = q.wr := by
            rw [hsp, List.drop_append, List.drop_of_length_le (by unfold B; omega)]
            unfold B at *
            rw [show (itw (List.take i F.items)).length + 1 - (itw (List.take i F.items)).length = 1 by omega]
            simp only [It.w, List.nil_append, List.cons_append, List.drop_succ_cons, List.drop_zero, List.append_assoc]
            rw [List.take_append_of_le_length (by omega), List.take_of_length_le (by omega)]
          rw [this]
        · exact Ex.one (Ex1.assign (.name rfl) (FE.loc rfl)) (Ex.nil (Ex.nil ⟨(ap, i + 1), hJ', rfl, rfl, rfl, (by dsimp only; rw [htake]; rfl), (by dsimp only; rw [← hk]; rfl), trivial⟩))
    · refine Ex.cons (Ex1.ite (c := false) ((Tr.cmp (hkp rfl rfl).b (hhd rfl rfl).b .eq_str).cast (by rw [hpre]; simp [hk])) nofun (fun _ => Ex.nil (Ex.nil ⟨(ap, i), ⟨(by dsimp only; omega), h2, (fun _ => by dsimp only; omega)⟩, rfl, rfl, rfl, rfl, rfl, trivial⟩)))
  · intro p hJ
    obtain ⟨ap, i⟩ := p
    obtain ⟨h1, h2, h3⟩ := hJ
    dsimp only at h1 h2 h3 ⊢
    rw [rng1_length] at h1 h3
    have hi : i = F.items.length := by
      rcases Nat.lt_or_ge i F.items.length with h | h
      · have := h3 h; have := B_le F (i + 1); omega
      · omega
    refine Ex.cons (Ex1.ret (EvB.own rfl) ?_)
    rw [hi, List.take_length, Fo.toD_items]
theorem read_ok (T : Tp G) {a : Addr} (Fr : FnAt G (df 8) a) : ∀ (d : Nat) (F : Fo), F.depth ≤ d → F.nodes ≤ 100 → F.Gd → CallD G (n + d + 5) (.ref a) [.list (rowsD F.wr)] (.list F.toD)
  | 0, F, h1, h2, h3 => read_step T Fr h2 h3 fun i hi => by have := (Fo.depth_items hi).1; omega
  | d + 1, F, h1, h2, h3 => read_step (m := n + d + 1) T Fr h2 h3 fun i hi => by
    have := Fo.depth_items hi
    exact read_ok T Fr d i (by omega) (by omega) (Fo.gd_items h3 _ hi)
end
end L11
end Mine
end
section
open PySem PySem.W PyProof.Rows PySem.Calls
set_option maxRecDepth 100000
namespace Mine
namespace L11
open PySem.Challenge
theorem fo_datas : ∀ {F : Fo}, F.Gd → ∀ {k : Nat}, F.depth ≤ k → D.datas k F.toD = true
  | .nil, _, k, _ => by simp [Fo.toD, D.datas]
  | .leaf p r, g, k, h => by
    rw [Fo.toD, D.datas, fo_datas g.2 h, (Pk.lf p g.1).good.1.data]; rfl
  | .group i r, g, k, h => by
    rw [Fo.depth] at h
    obtain ⟨k, rfl⟩ : ∃ k', k = k' + 1 := ⟨k - 1, by omega⟩
    rw [Fo.toD, D.datas, fo_datas g.2 (by omega), D.data, fo_datas g.1 (by omega)]; rfl
section
variable {G : Gr} {n : Nat} {env : Env} {σ : St}
theorem rowsD_data {ps : List (List Nat)} (h : ∀ p ∈ ps, Good p) {k : Nat} : (D.list (rowsD ps)).data (k + 1) = true := data_list fun d hd => by
  obtain ⟨p, hp, rfl⟩ := List.mem_map.mp hd
  exact (h p hp).data
theorem bad_good : Good bad := fun c hc => by simp [bad] at hc; omega
theorem pre_good {l : List Nat} (h : Good l) : Good (pre l) := by unfold pre; split; exact h; exact bad_good
theorem flat_good {ps : List (List Nat)} (h : ∀ p ∈ ps, Pk p) : Good ps.flatten := fun c hc => by
  obtain ⟨p, hp, hm⟩ := List.mem_flatten.mp hc
  exact (h p hp).good.1 c hm
theorem eqb_str {p q : List Nat} : (D.str (S p)).eqb (.str (S q)) = decide (p = q) := by
  show PyData.eqv (.str (S p)) (.str (S q)) = _
  have : PyData.eqv (.str (S p)) (.str (S q)) = (S p == S q) := by simp [PyData.eqv]
  rw [this, str_beq]
  simp [S_inj]
def isBr (p : List Nat) : Bool := decide (p = [40] ∨ p = [41])
theorem br_any (q : List Nat) : ((rowsD [[40], [41]]).any fun y => y.eqb (.str (S q))) = isBr q := by
  show (((D.str (S [40])).eqb (.str (S q))) || (((D.str (S [41])).eqb (.str (S q))) || false)) = isBr q
  rw [eqb_str, eqb_str]
  unfold isBr
  by_cases h1 : q = [40]
  · subst h1; decide
  · by_cases h2 : q = [41]
    · subst h2; decide
    · rw [decide_eq_false (fun e => h1 e.symm), decide_eq_false (fun e => h2 e.symm), decide_eq_false (fun e => e.elim h1 h2)]; rfl
def lessOf (P : List (List Nat)) : List (List Nat) := ((List.range P.length).filter fun k => isBr (P.getD k [])).map fun k => (P.take k ++ P.drop (k + 1)).flatten
set_option maxHeartbeats 8000000 in
theorem law_call {ns : List Int} (T : Tp G) (hn : ns.length ≤ 63) {a : Addr} (F : FnAt G (df 9) a) : CallD G (n + 70) (.ref a) [.list (ns.map .int)] (.bool true) := by
  obtain ⟨aP, FP⟩ := T.preF
  obtain ⟨aT, FT⟩ := T.tree
  obtain ⟨aW, FW⟩ := T.write
  obtain ⟨aR, FR⟩ := T.read
  refine CallD.fn1 (x := "script") F (fun env FE => ?_)
  have hsl : (ns.map D.int).length = ns.length := List.length_map ..
  have len : ∀ {m : Nat} {σ : St} {p1 p2 p3 : Pos}, σ.lookup ("script" : Str) = some (.val (.list (ns.map .int))) → Ev G m env σ (.Call (.Name "len" p1) [.Name "script" p2] [] p3) (.int (ns.length : Nat)) := fun hl =>
    (Ev.call (.builtin (FE.kind rfl) T.len rfl) (.builtin _) (.cons (.name hl) .nil) (.len_list (by rw [hsl]; omega))).cast (by rw [hsl])
  -- cells
  obtain ⟨r, hr, hr9⟩ : ∃ r : Nat, (if ((ns.length : Nat) : Int) < 9 then ((ns.length : Nat) : Int) else 9) = (r : Int) ∧ r ≤ 9 := by
    split
    · exact ⟨ns.length, rfl, by omega⟩
    · exact ⟨9, rfl, by omega⟩
  refine Ex.step (Ex1.assignComp (CompOk.mk' (σc := [("script", .val (.list (ns.map .int)))]) (ds := nums (List.range r)) (f := fun d => setS "k" (.val d)) (keep := fun _ => true)
      (res := fun d => .int (pickD ns (some ((posOf d : Nat) : Int)) none (some 9)).sum) (out := ((List.range r).map fun k => (pickD ns (some ((k : Nat) : Int)) none (some 9)).sum).map .int) FE ⟨⟨rfl, rfl, FE.kind rfl⟩, trivial⟩
      (.of_ev ((Ev.call (.builtin (FE.kind rfl) T.range rfl) (.type _) (.cons ((Ev.call (.builtin (FE.kind rfl) T.min rfl) (.builtin _) (.cons .int (.cons (len rfl) .nil)) .min2).cast (d' := .int (r : Int)) (by rw [hr])) .nil) .range)) ?_) (fun d _ => ⟨rfl, trivial⟩) (fun cenv CE d hd => ?_) ?_ ?_) (FE.loc rfl) (FE.swaps fun _ => rfl)) ?_
  · rw [← rng_nums]
    exact .rng (by decide) (by decide) (by omega) (by omega)
  · obtain ⟨k, hk, rfl⟩ := List.mem_map.mp hd
    refine ⟨.name (CE.loc rfl), .nil, fun _ => ?_⟩
    refine (Ev.call (.builtin (CE.glob rfl) T.sum rfl) (.builtin _) (.cons ((Ev.item (.name rfl) (.slice (.some (.name rfl)) .none (.some .int)) (.slice rfl rfl rfl (by simp [D.part]) (by rw [hsl]; unfold sizeLine; omega))).cast (d' := .list ((pickD ns (some ((k : Nat) : Int)) none (some 9)).map .int)) ?_) .nil) .sum).cast ?_
    · show D.list (pickD (ns.map D.int) (some ((k : Nat) : Int)) none (some 9)) = _
      rw [pickD_map]
    · simp [posOf]
  · simp [nums]; unfold sizeLine; omega
  · rw [List.filter_eq_self.mpr (by simp), nums_map _ fun j => .int (pickD ns (some ((j : Nat) : Int)) none (some 9)).sum, List.map_map]; rfl
  rintro _ ⟨ac, rfl⟩
  refine Ex.freeze (x := "cells") rfl ?_
  generalize hcs : ((List.range r).map fun k => (pickD ns (some ((k : Nat) : Int)) none (some 9)).sum) = cs
  have hcl : cs.length ≤ 9 := by rw [← hcs]; simpa using hr9
  -- tree
  have htr := treeOf_ok (cs ++ [((ns.length : Nat) : Int)])
  refine Ex.one (Ex1.assign (d := .list (treeOf (cs ++ [((ns.length : Nat) : Int)])).toD) (.call (fn_ev FT (FE.kind rfl)) FT.callee (.cons ((Ev.binop (.name rfl) (Ev.list (.cons (len rfl) .nil) (by show 1 ≤ sizeLine; decide)) (.add_list (by simp; unfold sizeLine; omega))).cast (d' := .list ((cs ++ [((ns.length : Nat) : Int)]).map .int)) (by simp)) .nil) (tree_ok T (by simp; omega) FT)) (FE.loc rfl)) ?_
  generalize treeOf (cs ++ [((ns.length : Nat) : Int)]) = W at htr
  have g : W.Gd := htr.1
  have hnodes : W.nodes ≤ 10 := by have := htr.2; simp at this; omega
  have hdep : W.depth ≤ 10 := Nat.le_trans (Fo.depth_le W) hnodes
  have hwl : W.wr.length ≤ 20 := by have := Fo.wr_len W; omega
  have hpk := Fo.pk g
  -- pieces
  refine Ex.one (Ex1.assign (d := .list (rowsD W.wr)) (.call (fn_ev FW (FE.kind rfl)) FW.callee (.cons (.name rfl) .nil) ((write_ok (n := 0) T FW 10 W hdep (by omega)).mono (by omega))) (FE.cel rfl)) ?_
  -- read
  have hdat : (D.list W.toD).data 11 = true := by rw [D.data]; exact fo_datas g hdep
  refine Ex.cons (Ex1.ite (c := false) ((Tr.cmp (Ev.call (fn_ev FR (FE.kind rfl)) FR.callee (.cons (.name rfl) .nil) ((read_ok (n := 0) T FR 10 W hdep (by omega) g).mono (by omega))).b (Ev.name rfl).b (.ne hdat hdat (by decide))).cast (by rw [eqb_refl hdat]; rfl)) nofun (fun _ => Ex.nil ?_))
  have lenp : ∀ {m : Nat} {σ : St} {p1 p2 p3 : Pos}, σ.lookup ("pieces" : Str) = some (.val (.list (rowsD W.wr))) → Ev G m env σ (.Call (.Name "len" p1) [.Name "pieces" p2] [] p3) (.int (W.wr.length : Nat)) := fun hl =>
    (Ev.call (.builtin (FE.kind rfl) T.len rfl) (.builtin _) (.cons (.name hl) .nil) (.len_list (by rw [rowsD_len]; omega))).cast (by rw [rowsD_len])
  -- less
  refine Ex.step (Ex1.assignComp (CompOk.mk' (σc := [("pieces", .val (.list (rowsD W.wr)))]) (ds := nums (List.range W.wr.length)) (f := fun d => setS "k" (.val d)) (keep := fun d => isBr (W.wr.getD (posOf d) []))
      (res := fun d => .str (S (W.wr.take (posOf d) ++ W.wr.drop (posOf d + 1)).flatten)) (out := rowsD (lessOf W.wr)) FE ⟨⟨rfl, rfl, FE.kind rfl⟩, trivial⟩
      (.of_ev ((Ev.call (.builtin (FE.kind rfl) T.range rfl) (.type _) (.cons (lenp rfl) .nil) .range)) ?_) (fun d _ => ⟨rfl, trivial⟩) (fun cenv CE d hd => ?_) ?_ ?_) (FE.loc rfl) (FE.swaps fun _ => rfl)) ?_
  · rw [← rng_nums]
    exact .rng (by decide) (by decide) (by omega) (by omega)
  · obtain ⟨k, hk, rfl⟩ := List.mem_map.mp hd
    have hk : k < W.wr.length := by simpa using hk
    have hgk : Good (W.wr.getD k []) := by
      simp only [List.getD_eq_getElem?_getD, List.getElem?_eq_getElem hk, Option.getD_some]
      exact (hpk _ (List.getElem_mem hk)).good.1
    refine ⟨.name (CE.loc rfl), .one ((Tr.cmp (Ev.item (.name rfl) (.name rfl) (.list (by omega) (by omega) (by rw [Int.toNat_natCast]; exact rowsD_get hk))).b (Ev.tuple (ds := rowsD [[40], [41]]) (.cons .str (.cons .str .nil)) (by decide)).b (.in_tuple (k := 1) ?_ hgk.data (by decide))).cast ?_), fun _ => ?_⟩
    · exact data_tuple fun d hd => by
        obtain ⟨p, hp, rfl⟩ := List.mem_map.mp hd
        refine Good.data fun c hc => ?_
        simp at hp
        rcases hp with rfl | rfl <;> simp at hc <;> omega
    · exact br_any (W.wr.getD k [])
    · have hfl := flat_len (ps := W.wr.take k ++ W.wr.drop (k + 1)) fun p hp => by
        rcases List.mem_append.mp hp with m | m
        · exact hpk p (List.mem_of_mem_take m)
        · exact hpk p (List.mem_of_mem_drop m)
      rw [List.length_append, List.length_take, List.length_drop] at hfl
      refine (Ev.meth (ds := [.list (((W.wr.take k ++ W.wr.drop (k + 1)).map S).map .str)]) (.str (x := S [])) .join (.builtin _) (.cons ((Ev.binop (Ev.item (.name rfl) (.slice .none (.some (.name rfl)) .none) (.slice rfl rfl rfl nofun (by rw [rowsD_len]; unfold sizeLine; omega))) (Ev.item (.name rfl) (.slice (.some (.binop (.name rfl) .int .add)) .none .none) (.slice rfl rfl rfl nofun (by rw [rowsD_len]; unfold sizeLine; omega))) (.add_list ?_)).cast ?_) .nil) (.join (joinOk_none (sz (by omega))))).cast ?_
      · refine Nat.le_trans (Nat.add_le_add (pickD_length_le _ _ _ _) (pickD_length_le _ _ _ _)) ?_
        rw [rowsD_len]; unfold sizeLine; omega
      · show D.list (pickD (rowsD W.wr) none (some ((k : Nat) : Int)) none ++ pickD (rowsD W.wr) (some (((k : Nat) : Int) + 1)) none none) = _
        rw [pickD_upto, show ((k : Nat) : Int) + 1 = ((k + 1 : Nat) : Int) by omega, pickD_from, rowsD_map]; simp [rowsD]
      · rw [join_none]; simp [posOf]
  · simp [nums]; unfold sizeLine; omega
  · rw [nums_filter _ fun k => isBr (W.wr.getD k []), nums_map _ fun k => .str (S (W.wr.take k ++ W.wr.drop (k + 1)).flatten)]
    simp [lessOf, rowsD]
  rintro _ ⟨al, rfl⟩
  refine Ex.freeze (x := "less") rfl ?_
  have hless : ∀ l ∈ lessOf W.wr, l.length ≤ 3000 ∧ pre l = bad := fun l hl => by
    obtain ⟨k, hk, rfl⟩ := List.mem_map.mp hl
    obtain ⟨hk1, hk2⟩ := List.mem_filter.mp hk
    have hk1 : k < W.wr.length := by simpa using hk1
    have hfl := flat_len (ps := W.wr.take k ++ W.wr.drop (k + 1)) fun p hp => by
      rcases List.mem_append.mp hp with m | m
      · exact hpk p (List.mem_of_mem_take m)
      · exact hpk p (List.mem_of_mem_drop m)
    rw [List.length_append, List.length_take, List.length_drop] at hfl
    refine ⟨by omega, ?_⟩
    unfold pre
    rw [less_bad g hk1 (by simpa [isBr] using hk2)]; rfl
  have hll : (lessOf W.wr).length ≤ 20 := by
    unfold lessOf
    rw [List.length_map]
    exact Nat.le_trans (List.length_filter_le _ _) (by simpa using hwl)
  have hpl : (lessOf W.wr).map pre = List.replicate (lessOf W.wr).length bad := by
    rw [List.eq_replicate_iff]
    refine ⟨by simp, fun l hl => ?_⟩
    obtain ⟨q, hq, rfl⟩ := List.mem_map.mp hl
    exact (hless q hq).2
  have hrep : (List.replicate ((lessOf W.wr).length : Int).toNat [D.str (S bad)]).flatten = rowsD ((lessOf W.wr).map pre) := by
    rw [hpl, Int.toNat_natCast]
    generalize (lessOf W.wr).length = c
    induction c with
    | zero => rfl
    | succ c ih => rw [List.replicate_succ, List.flatten_cons, ih, List.replicate_succ]; rfl
  have hbg : ∀ p ∈ (lessOf W.wr).map pre, Good p := fun p hp => by
    obtain ⟨q, hq, rfl⟩ := List.mem_map.mp hp
    rw [(hless q hq).2]; exact bad_good
  have hd1 := rowsD_data (k := 0) hbg
  have hlenless : (rowsD (lessOf W.wr)).length = (lessOf W.wr).length := rowsD_len _
  refine Ex.cons (Ex1.ite (c := false) ((Tr.cmp (Ev.call (fn_ev FP (FE.kind rfl)) FP.callee (.cons (.name rfl) .nil) (pre_ok (n := n + 65) T.toPj (fun l hl => (hless l hl).1) (by omega) .list FP)).b
    ((EvF.mul (k := ((lessOf W.wr).length : Nat)) (EvF.list (ds := [D.str (S bad)]) (.cons .str .nil) (by decide)) ((Ev.call (.builtin (FE.kind rfl) T.len rfl) (.builtin _) (.cons (.name rfl) .nil) (.len_list (by rw [hlenless]; omega))).cast (by rw [hlenless])) (by omega) (by omega) (by simp; omega)).ev.cast (d' := .list (rowsD ((lessOf W.wr).map pre))) (by rw [hrep])).b (.ne hd1 hd1 (by decide))).cast (by rw [eqb_refl hd1]; rfl)) nofun (fun _ => Ex.nil ?_))
  -- turned
  have hrl := flat_len (ps := W.wr.reverse) fun p hp => hpk p (by simpa using hp)
  rw [List.length_reverse] at hrl
  refine Ex.one (Ex1.assign (d := .str (S W.wr.reverse.flatten)) ((Ev.meth (ds := [.list ((W.wr.reverse.map S).map .str)]) (.str (x := S [])) .join (.builtin _) (.cons ((Ev.item (.name rfl) (.slice .none .none (.some (.neg .int))) (.slice rfl rfl rfl (by simp [D.part]) (by rw [rowsD_len]; unfold sizeLine; omega))).cast ?_) .nil) (.join (joinOk_none (sz (by omega))))).cast ?_) (FE.loc rfl)) ?_
  · show D.list (pickD (rowsD W.wr) none none (some (-1))) = _
    rw [pickD_rev, rowsD_map]; simp [rowsD]
  · rw [join_none]
  -- want
  have htc := turned_check g
  have hany : ((rowsD W.wr).any fun y => y.eqb (.str (S [40]))) = decide ([40] ∈ W.wr) := by
    unfold rowsD
    rw [List.any_map]
    have : ((fun y : D => y.eqb (.str (S [40]))) ∘ fun p => D.str (S p)) = fun p => decide (p = [40]) := by
      funext p; exact eqb_str
    rw [this]
    by_cases h : [40] ∈ W.wr
    · rw [decide_eq_true h, List.any_eq_true]; exact ⟨_, h, by simp⟩
    · rw [decide_eq_false h, List.any_eq_false]
      intro p hp e
      exact h (by rw [← of_decide_eq_true e]; exact hp)
  have hpre : (if [40] ∈ W.wr then bad else W.wr.reverse.flatten) = pre W.wr.reverse.flatten := by
    unfold pre
    rw [htc]
    by_cases h : [40] ∈ W.wr <;> simp [h]
  have hd2 := rowsD_data (k := 0) (ps := W.wr) fun p hp => (hpk p hp).good.1
  have hg40 : Good [40] := fun c hc => by simp at hc; omega
  refine Ex.one (Ex1.assign (d := .str (S (pre W.wr.reverse.flatten))) (Ev.ifexp (c := decide ([40] ∈ W.wr)) ((Tr.cmp (Ev.str (x := S [40])).b (Ev.name rfl).b (.in_list (k := 1) hd2 hg40.data (by decide))).cast hany) (fun h => ?_) (fun h => ?_)) (FE.loc rfl)) ?_
  · rw [← hpre, if_pos (of_decide_eq_true h)]; exact .str
  · rw [← hpre, if_neg (of_decide_eq_false h)]; exact .name rfl
  have hgr : Good W.wr.reverse.flatten := flat_good fun p hp => hpk p (by simpa using hp)
  have hd3 := rowsD_data (k := 0) (ps := [pre W.wr.reverse.flatten]) fun p hp => by rw [List.mem_singleton.mp hp]; exact pre_good hgr
  refine Ex.cons (Ex1.ret ((Ev.cmp (Ev.call (fn_ev FP (FE.kind rfl)) FP.callee (.cons (Ev.list (ds := rowsD [W.wr.reverse.flatten]) (.cons (.name rfl) .nil) (by show 1 ≤ sizeLine; decide)) .nil) (pre_ok (n := n + 65) T.toPj (fun l hl => by rw [List.mem_singleton.mp hl]; omega) (by simp) .list FP)).b
    (Ev.list (ds := rowsD [pre W.wr.reverse.flatten]) (.cons (.name rfl) .nil) (by show 1 ≤ sizeLine; decide)).b (.eq hd3 hd3 (by decide))).cast (d' := .bool true) ?_).b rfl)
  rw [show List.map pre [W.wr.reverse.flatten] = [pre W.wr.reverse.flatten] from rfl, eqb_refl hd3]
end
end L11
end Mine
end
section
open PySem PySem.W PyProof.Rows
set_option maxRecDepth 100000 in
set_option maxHeartbeats 8000000 in
theorem PySem.Challenge.cw_dm0097_11_holds : PySem.Challenge.rw_dm0097_11.Holds := by
  w_on; o_law; k_head; (case hw => w_witness2)
  k_fill
  intro w s₀ s₁ mg mb G Y fa o pm cd doc dV kV ho hd hcd hD hmg hg args vals as hpre hlay hrd hwl hlo
  refine Ground.open G ?_
  intro T B D TE TW
  clear hd hcd hD
  wrow_args hpre hlay hrd hwl hlo
  rename_i hL _ _ _ hI _ hc _
  refine Mine.law_fin T hL hI hg (Mine.L11.law_call (n := 0) (F := Mine.fnAt_law T hmg 7 (by kernel_rfl)) ?tp ?len) (by decide) (by intro _; rfl) ?post
  case post => wrow_post
  case len => omega
  case tp => exact {
    len := Mine.free_of T _ (by decide +kernel)
    enum := Mine.free_of T _ (by decide +kernel)
    iter := Mine.fnAt_of T 0 (by kernel_rfl)
    strip := Mine.fnAt_of T 1 (by kernel_rfl)
    check := Mine.fnAt_of T 2 (by kernel_rfl)
    range := Mine.free_of T _ (by decide +kernel)
    sum := Mine.free_of T _ (by decide +kernel)
    min := Mine.free_of T _ (by decide +kernel)
    isi := Mine.free_of T _ (by decide +kernel)
    strT := Mine.free_of T _ (by decide +kernel)
    preF := Mine.fnAt_of T 3 (by kernel_rfl)
    tree := Mine.fnAt_of T 4 (by kernel_rfl)
    write := Mine.fnAt_of T 5 (by kernel_rfl)
    read := Mine.fnAt_of T 6 (by kernel_rfl) }
end
