import PyProof.Rows.All
import Wide.All
import OpenK.AllK
import Wide.FinOn
import PySem.Challenge.RW_dm0097_10
set_option Elab.async false
set_option linter.unusedVariables false
set_option linter.unusedSimpArgs false
section
open PySem PySem.W PyProof.Rows
set_option maxRecDepth 100000
namespace Mine
/-- deep data: what a value says, all the way down -/
inductive D where
  | none
  | bool (b : Bool)
  | int (i : Int)
  | str (x : Str)
  | bytes (b : Array UInt8)
  | raw (v : Value)
  | tuple (ds : List D)
  | list (ds : List D)
  | slice (l u st : D)
  | rng (lo hi : Int)
mutual
inductive Rep (ok : Addr → Prop) (h : Heap) : Value → D → Prop
  | none : Rep ok h .none .none
  | bool (b : Bool) : Rep ok h (.bool b) (.bool b)
  | int (i : Int) (t : Tok) : Rep ok h (.int i t) (.int i)
  | str (x : Str) (t : Tok) : Rep ok h (.str x t) (.str x)
  | bytes (b : Array UInt8) (t : Tok) : Rep ok h (.bytes b t) (.bytes b)
  | raw (v : Value) : Rep ok h v (.raw v)
  | tuple {a : Addr} {vs : List Value} {ds : List D} : ok a → IsTup h a vs.toArray → RepAll ok h vs ds → Rep ok h (.ref a) (.tuple ds)
  | list {a : Addr} {vs : List Value} {ds : List D} : ok a → h.IsList a vs.toArray → RepAll ok h vs ds → Rep ok h (.ref a) (.list ds)
  | slice {a : Addr} {o : Obj} {v1 v2 v3 : Value} {l u st : D} : ok a → h.get? a = some o → o.cls = .type "slice" → o.data = .fields #[v1, v2, v3] → Rep ok h v1 l → Rep ok h v2 u → Rep ok h v3 st → Rep ok h (.ref a) (.slice l u st)
  | rng {a : Addr} {lo hi : Int} {t1 t2 t3 : Tok} : ok a → IsRange h a lo hi 1 t1 t2 t3 → Rep ok h (.ref a) (.rng lo hi)
inductive RepAll (ok : Addr → Prop) (h : Heap) : List Value → List D → Prop
  | nil : RepAll ok h [] []
  | cons {v : Value} {vs : List Value} {d : D} {ds : List D} : Rep ok h v d → RepAll ok h vs ds → RepAll ok h (v :: vs) (d :: ds)
end
def isDict : Data → Bool
  | .dict .. => true
  | _ => false
/-- what stood stands: plain objects to the sign, namespaces up to their marks -/
def Ext (base h h' : Heap) : Prop := ∀ b o, h.get? b = some o → ∃ o', h'.get? b = some o' ∧ o'.cls = o.cls ∧ o'.data = o.data ∧ ((base.get? b).isSome = true ∨ isDict o.data = false → o' = o)
theorem Ext.of_stays {base h h' : Heap} (k : ∀ b o, h.get? b = some o → h'.get? b = some o) : Ext base h h' := fun b o e => ⟨o, k b o e, rfl, rfl, fun _ => rfl⟩
theorem Ext.refl {base h : Heap} : Ext base h h := .of_stays fun _ _ e => e
theorem Ext.trans {base h₁ h₂ h₃ : Heap} (x : Ext base h₁ h₂) (y : Ext base h₂ h₃) : Ext base h₁ h₃ := by
  intro b o e
  obtain ⟨o', e', c', d', k'⟩ := x b o e
  obtain ⟨o'', e'', c'', d'', k''⟩ := y b o' e'
  refine ⟨o'', e'', c''.trans c', d''.trans d', fun q => ?_⟩
  have := k' q; subst this
  exact k'' q
theorem Ext.base {base h h' : Heap} (x : Ext base h h') (k : base.StaysIn h) : base.StaysIn h' := by
  intro b o e
  obtain ⟨o', e', _, _, k'⟩ := x b o (k b o e)
  rw [e', k' (.inl (by rw [e]; rfl))]
theorem Ext.list {base h h' : Heap} {a : Addr} {items : Array Value} (x : Ext base h h') (l : h.IsList a items) : h'.IsList a items := by
  obtain ⟨o, e, c, n, d⟩ := l
  obtain ⟨o', e', c', d', _⟩ := x a o e
  exact ⟨o', e', c'.trans c, n, d'.trans d⟩
theorem Ext.tup {base h h' : Heap} {a : Addr} {items : Array Value} (x : Ext base h h') (l : IsTup h a items) : IsTup h' a items := by
  obtain ⟨o, e, c, n, d⟩ := l
  obtain ⟨o', e', c', d', _⟩ := x a o e
  exact ⟨o', e', c'.trans c, n, d'.trans d⟩
theorem Ext.ns {base h h' : Heap} {a : Addr} {m : Str → Option Value} (x : Ext base h h') (l : h.Ns a m) : h'.Ns a m := by
  obtain ⟨o, es, ep, e, d, r⟩ := l
  obtain ⟨o', e', _, d', _⟩ := x a o e
  exact ⟨o', es, ep, e', d'.trans d, r⟩
theorem Ext.cell {base h h' : Heap} {a : Addr} {v : Option Value} (x : Ext base h h') (l : h.IsCell a v) : h'.IsCell a v := by
  obtain ⟨o, e, d⟩ := l
  obtain ⟨o', e', _, d', _⟩ := x a o e
  exact ⟨o', e', d'.trans d⟩
theorem Ext.none {base h h' : Heap} {b : Addr} (x : Ext base h h') (e : h'.get? b = none) : h.get? b = none := by
  cases q : h.get? b with
  | none => rfl
  | some o => obtain ⟨o', e', _⟩ := x b o q; rw [e'] at e; cases e
mutual
theorem Rep.ext {ok ok' : Addr → Prop} {base h h' : Heap} (x : Ext base h h') (k : ∀ a, ok a → (h.get? a).isSome = true → ok' a) : ∀ {v : Value} {d : D}, Rep ok h v d → Rep ok' h' v d
  | _, _, .none => .none
  | _, _, .bool b => .bool b
  | _, _, .int i t => .int i t
  | _, _, .str y t => .str y t
  | _, _, .bytes b t => .bytes b t
  | _, _, .raw v => .raw v
  | _, _, .tuple o l r => .tuple (k _ o (by obtain ⟨_, e, _⟩ := l; rw [e]; rfl)) (x.tup l) (RepAll.ext x k r)
  | _, _, .list o l r => .list (k _ o (by obtain ⟨_, e, _⟩ := l; rw [e]; rfl)) (x.list l) (RepAll.ext x k r)
  | _, _, .slice o e c d p q r => .slice (k _ o (by rw [e]; rfl)) (by
      obtain ⟨o', e', c', d', k'⟩ := x _ _ e
      rw [k' (.inr (by rw [d]; rfl))] at e'; exact e') c d (Rep.ext x k p) (Rep.ext x k q) (Rep.ext x k r)
  | _, _, .rng o e => .rng (k _ o (by unfold IsRange at e; rw [e]; rfl)) (by
      unfold IsRange at e ⊢
      obtain ⟨o', e', c', d', k'⟩ := x _ _ e
      rw [k' (.inr rfl)] at e'; exact e')
theorem RepAll.ext {ok ok' : Addr → Prop} {base h h' : Heap} (x : Ext base h h') (k : ∀ a, ok a → (h.get? a).isSome = true → ok' a) : ∀ {vs : List Value} {ds : List D}, RepAll ok h vs ds → RepAll ok' h' vs ds
  | _, _, .nil => .nil
  | _, _, .cons a r => .cons (Rep.ext x k a) (RepAll.ext x k r)
end
/-- an object that may stand in a tree -/
inductive IsNode (h : Heap) (a : Addr) : Prop
  | list {vs : Array Value} : h.IsList a vs → IsNode h a
  | tup {vs : Array Value} : IsTup h a vs → IsNode h a
  | slice {o : Obj} {v1 v2 v3 : Value} : h.get? a = some o → o.cls = .type "slice" → o.data = .fields #[v1, v2, v3] → IsNode h a
  | rng {lo hi : Int} {t1 t2 t3 : Tok} : IsRange h a lo hi 1 t1 t2 t3 → IsNode h a
/-- all but the objects W stands -/
def ExtBut (base : Heap) (W : Addr → Prop) (h h' : Heap) : Prop := ∀ b o, ¬ W b → h.get? b = some o → ∃ o', h'.get? b = some o' ∧ o'.cls = o.cls ∧ o'.data = o.data ∧ ((base.get? b).isSome = true ∨ isDict o.data = false → o' = o)
mutual
theorem Rep.extBut {ok ok' : Addr → Prop} {base h h' : Heap} {W : Addr → Prop} (x : ExtBut base W h h') (n : ∀ a, ok a → IsNode h a → ¬ W a) (k : ∀ a, ok a → (h.get? a).isSome = true → ok' a) : ∀ {v : Value} {d : D}, Rep ok h v d → Rep ok' h' v d
  | _, _, .none => .none
  | _, _, .bool b => .bool b
  | _, _, .int i t => .int i t
  | _, _, .str y t => .str y t
  | _, _, .bytes b t => .bytes b t
  | _, _, .raw v => .raw v
  | _, _, .tuple o l r => .tuple (k _ o (by obtain ⟨_, e, _⟩ := l; rw [e]; rfl)) (by
      have q := n _ o (.tup l)
      obtain ⟨o₁, e, c, m, d⟩ := l
      obtain ⟨o', e', c', d', _⟩ := x _ o₁ q e
      exact ⟨o', e', c'.trans c, m, d'.trans d⟩) (RepAll.extBut x n k r)
  | _, _, .list o l r => .list (k _ o (by obtain ⟨_, e, _⟩ := l; rw [e]; rfl)) (by
      have q := n _ o (.list l)
      obtain ⟨o₁, e, c, m, d⟩ := l
      obtain ⟨o', e', c', d', _⟩ := x _ o₁ q e
      exact ⟨o', e', c'.trans c, m, d'.trans d⟩) (RepAll.extBut x n k r)
  | _, _, .slice o e c d p q r => .slice (k _ o (by rw [e]; rfl)) (by
      obtain ⟨o', e', c', d', k'⟩ := x _ _ (n _ o (.slice e c d)) e
      rw [k' (.inr (by rw [d]; rfl))] at e'; exact e') c d (Rep.extBut x n k p) (Rep.extBut x n k q) (Rep.extBut x n k r)
  | _, _, .rng o e => .rng (k _ o (by unfold IsRange at e; rw [e]; rfl)) (by
      unfold IsRange at e ⊢
      obtain ⟨o', e', c', d', k'⟩ := x _ _ (n _ o (.rng e)) e
      rw [k' (.inr rfl)] at e'; exact e')
theorem RepAll.extBut {ok ok' : Addr → Prop} {base h h' : Heap} {W : Addr → Prop} (x : ExtBut base W h h') (n : ∀ a, ok a → IsNode h a → ¬ W a) (k : ∀ a, ok a → (h.get? a).isSome = true → ok' a) : ∀ {vs : List Value} {ds : List D}, RepAll ok h vs ds → RepAll ok' h' vs ds
  | _, _, .nil => .nil
  | _, _, .cons a r => .cons (Rep.extBut x n k a) (RepAll.extBut x n k r)
end
theorem RepAll.length {ok : Addr → Prop} {h : Heap} {vs : List Value} {ds : List D} (r : RepAll ok h vs ds) : vs.length = ds.length := by
  induction vs generalizing ds with
  | nil => cases r; rfl
  | cons v vs ih => cases r with | cons _ r => rw [List.length_cons, List.length_cons, ih r]
theorem RepAll.append {ok : Addr → Prop} {h : Heap} {vs ws : List Value} {ds es : List D} (r : RepAll ok h vs ds) (k : RepAll ok h ws es) : RepAll ok h (vs ++ ws) (ds ++ es) := by
  induction vs generalizing ds with
  | nil => cases r; exact k
  | cons v vs ih => cases r with | cons a r => exact .cons a (ih r)
theorem RepAll.get {ok : Addr → Prop} {h : Heap} {vs : List Value} {ds : List D} (r : RepAll ok h vs ds) {k : Nat} {d : D} (hk : ds[k]? = some d) : ∃ v, vs[k]? = some v ∧ Rep ok h v d := by
  induction vs generalizing ds k with
  | nil => cases r; cases hk
  | cons v vs ih =>
    cases r with
    | cons a r =>
      cases k with
      | zero => cases hk; exact ⟨v, rfl, a⟩
      | succ k => exact ih r hk
end Mine
end
section
open PySem PySem.W PyProof.Rows
set_option maxRecDepth 100000
namespace Mine
/-- the ground: what stands behind the top -/
structure Gr where
  prog : Program
  w : World
  base : Heap
  mg : Str → Option Value
  mb : Str → Option Value
  g : base.Ns mainGlobals mg
  b : base.Ns builtinsNs mb
  bb : ∀ x : Str, x ≠ "__name__" → mb x = bootBuiltins x
  nolimit : base.NoLimit
abbrev Gr.M (G : Gr) : Model := model G.prog G.w
/-- room for n more calls -/
structure Room (n : Nat) (A : Around) : Prop where
  handled : A.handled = none
  depth : A.depth + n < recursionLimit
  units : A.units + 30 * n + 500 < cLine
theorem Room.deeper {n : Nat} {A : Around} {env : Env} (r : Room (n + 1) A) : Room n (A.deeper env) := ⟨r.handled, by have := r.depth; show A.depth + 1 + n < _; omega, by have := r.units; show A.units + 3 + 30 * n + 500 < _; omega⟩
/-- old generators stay as they are -/
structure GensKeep (g g' : Array GenState) : Prop where
  keep : ∀ (i : Nat) (x : GenState), g[i]? = some x → g'[i]? = some x
  bare : (∀ x ∈ g, x.bare = true) → ∀ x ∈ g', x.bare = true
theorem GensKeep.refl {g : Array GenState} : GensKeep g g := ⟨fun _ _ h => h, fun h => h⟩
theorem GensKeep.trans {a b c : Array GenState} (x : GensKeep a b) (y : GensKeep b c) : GensKeep a c := ⟨fun i z h => y.keep i z (x.keep i z h), fun h => y.bare (x.bare h)⟩
/-- a step that only adds -/
structure Stp (base : Heap) (s s' : Shared) : Prop where
  ext : Ext base s.heap s'.heap
  os : s'.os = s.os
  gens : GensKeep s.gens s'.gens
theorem Stp.refl {base : Heap} {s : Shared} : Stp base s s := ⟨.refl, rfl, .refl⟩
theorem Stp.trans {base : Heap} {a b c : Shared} (x : Stp base a b) (y : Stp base b c) : Stp base a c := ⟨x.ext.trans y.ext, y.os.trans x.os, x.gens.trans y.gens⟩
theorem Stp.heap {base : Heap} {s : Shared} {h' : Heap} {tk : Nat} (k : ∀ b o, s.heap.get? b = some o → h'.get? b = some o) : Stp base s { s with heap := h', toks := tk } := ⟨.of_stays k, rfl, .refl⟩
theorem Stp.tok {base : Heap} {s : Shared} {tk : Nat} : Stp base s { s with toks := tk } := ⟨.refl, rfl, .refl⟩
theorem Stp.push {base : Heap} {s : Shared} {o : Obj} {tk : Nat} : Stp base s { s with heap := s.heap.push o, toks := tk } := .heap fun _ _ e => Heap.get?_push_of_some _ e
def FreshOk (ok : Addr → Prop) (h : Heap) : Prop := ∀ b, h.get? b = none → ok b
theorem FreshOk.stp {ok : Addr → Prop} {base h h' : Heap} (f : FreshOk ok h) (x : Ext base h h') : FreshOk ok h' := fun b e => f b (x.none e)
theorem Rep.stp {ok : Addr → Prop} {base : Heap} {s s' : Shared} {v : Value} {d : D} (r : Rep ok s.heap v d) (x : Stp base s s') : Rep ok s'.heap v d := r.ext x.ext fun _ h _ => h
theorem RepAll.stp {ok : Addr → Prop} {base : Heap} {s s' : Shared} {vs : List Value} {ds : List D} (r : RepAll ok s.heap vs ds) (x : Stp base s s') : RepAll ok s'.heap vs ds := r.ext x.ext fun _ h _ => h
theorem Rep.weak {ok ok' : Addr → Prop} {h : Heap} {v : Value} {d : D} (r : Rep ok h v d) (k : ∀ a, ok a → ok' a) : Rep ok' h v d := r.ext (base := h) .refl fun a h _ => k a h
theorem RepAll.weak {ok ok' : Addr → Prop} {h : Heap} {vs : List Value} {ds : List D} (r : RepAll ok h vs ds) (k : ∀ a, ok a → ok' a) : RepAll ok' h vs ds := r.ext (base := h) .refl fun a h _ => k a h
inductive Slot where
  | val (d : D)
  | own (a : Addr) (ds : List D)
abbrev St := List (Str × Slot)
def owned : St → List Addr
  | [] => []
  | (_, .own a _) :: r => a :: owned r
  | (_, .val _) :: r => owned r
def setS (x : Str) (s : Slot) : St → St
  | [] => [(x, s)]
  | (y, t) :: r => if x = y then (x, s) :: r else (y, t) :: setS x s r
def okO (ok : Addr → Prop) (σ : St) (a : Addr) : Prop := ok a ∧ a ∉ owned σ
/-- where a name of the frame lies -/
def Holds (env : Env) (h : Heap) (x : Str) (v : Value) : Prop :=
  (env.kindOf x = some .local ∧ ∃ m, h.Ns env.locals m ∧ m x = some v) ∨
  ((env.kindOf x = some .cell ∨ env.kindOf x = some .free) ∧ ∃ c, env.cells.lookup x = some c ∧ h.IsCell c (some v))
theorem Holds.ext {base h h' : Heap} {env : Env} {x : Str} {v : Value} (e : Ext base h h') (q : Holds env h x v) : Holds env h' x v := by
  rcases q with ⟨k, m, n, r⟩ | ⟨k, c, l, r⟩
  · exact .inl ⟨k, m, e.ns n, r⟩
  · exact .inr ⟨k, c, l, e.cell r⟩
structure Frame (env : Env) (h : Heap) : Prop where
  kind : env.scope.kind = .function
  ns : ∃ m, h.Ns env.locals m
  cells : ∀ x c, env.cells.lookup x = some c → ∃ v, h.IsCell c v
  apart : env.cells.Pairwise fun x y => x.2 ≠ y.2
  away : ∀ x c, env.cells.lookup x = some c → c ≠ env.locals
  glob : env.globals = mainGlobals
  blt : env.builtins = builtinsNs
theorem Frame.ext {base h h' : Heap} {env : Env} (e : Ext base h h') (q : Frame env h) : Frame env h' :=
  ⟨q.kind, q.ns.imp fun _ n => e.ns n, fun x c l => (q.cells x c l).imp fun _ n => e.cell n, q.apart, q.away, q.glob, q.blt⟩
/-- the objects that a frame may write -/
def FrW (env : Env) (a : Addr) : Prop := a = env.locals ∨ ∃ x, env.cells.lookup x = some a
def Wr (env : Env) (σ : St) (a : Addr) : Prop := FrW env a ∨ a ∈ owned σ
/-- a list of the program's own making -/
def OwnL (h : Heap) (a : Addr) (vs : List Value) : Prop := ∃ n, h.get? a = some (listOf vs.toArray n)
theorem OwnL.list {h : Heap} {a : Addr} {vs : List Value} (l : OwnL h a vs) : h.IsList a vs.toArray := let ⟨n, e⟩ := l; ⟨_, e, rfl, n, rfl⟩
theorem OwnL.some {h : Heap} {a : Addr} {vs : List Value} (l : OwnL h a vs) : (h.get? a).isSome = true := by obtain ⟨n, e⟩ := l; rw [e]; rfl
theorem Ext.own {base h h' : Heap} {a : Addr} {vs : List Value} (x : Ext base h h') (l : OwnL h a vs) : OwnL h' a vs := by
  obtain ⟨n, e⟩ := l
  obtain ⟨o', e', _, _, k⟩ := x a _ e
  rw [k (.inr rfl)] at e'; exact ⟨n, e'⟩
theorem ExtBut.own {base h h' : Heap} {W : Addr → Prop} {a : Addr} {vs : List Value} (x : ExtBut base W h h') (w : ¬ W a) (l : OwnL h a vs) : OwnL h' a vs := by
  obtain ⟨n, e⟩ := l
  obtain ⟨o', e', _, _, k⟩ := x a _ w e
  rw [k (.inr rfl)] at e'; exact ⟨n, e'⟩
structure Inv (base : Heap) (ok : Addr → Prop) (env : Env) (σ : St) (h : Heap) : Prop where
  frame : Frame env h
  off : ∀ a, Wr env σ a → base.get? a = none
  fresh : FreshOk ok h
  vals : ∀ x d, σ.lookup x = some (.val d) → ∃ v, Holds env h x v ∧ Rep (okO ok σ) h v d
  owns : ∀ x a ds, σ.lookup x = some (.own a ds) → Holds env h x (.ref a) ∧ ok a ∧ ∃ vs, OwnL h a vs ∧ RepAll (okO ok σ) h vs ds
  there : ∀ a ∈ owned σ, ∃ vs, OwnL h a vs
  once : (owned σ).Nodup
theorem Inv.ext {ok : Addr → Prop} {base h h' : Heap} {env : Env} {σ : St} (e : Ext base h h') (i : Inv base ok env σ h) : Inv base ok env σ h' where
  frame := i.frame.ext e
  off := i.off
  fresh := i.fresh.stp e
  vals := fun x d l => let ⟨v, a, r⟩ := i.vals x d l; ⟨v, a.ext e, r.ext e fun _ h _ => h⟩
  owns := fun x a ds l => let ⟨p, q, vs, r, t⟩ := i.owns x a ds l; ⟨p.ext e, q, vs, e.own r, t.ext e fun _ h _ => h⟩
  there := fun a m => (i.there a m).imp fun _ r => e.own r
  once := i.once
theorem Inv.freshO {ok : Addr → Prop} {base h : Heap} {env : Env} {σ : St} (i : Inv base ok env σ h) : FreshOk (okO ok σ) h := fun b e => ⟨i.fresh b e, fun m => by
  obtain ⟨vs, k, q⟩ := i.there b m
  rw [e] at q; cases q⟩
section
variable (G : Gr) (n : Nat)
/-- an expression's value -/
def Ev (env : Env) (σ : St) (e : Expr) (d : D) : Prop := ∀ ok A s E, Room n A → G.base.StaysIn s.heap → Inv G.base ok env σ s.heap →
  wpAny G.M A (eval e env) (fun v s' => Stp G.base s s' ∧ Rep (okO ok σ) s'.heap v d) E s
/-- a test's answer -/
def Tr (env : Env) (σ : St) (e : Expr) (b : Bool) : Prop := ∀ ok A s E, Room n A → G.base.StaysIn s.heap → Inv G.base ok env σ s.heap →
  wpAny G.M A (isTrue e env (eval e env)) (fun r s' => Stp G.base s s' ∧ r = b) E s
def BinD (op : Operator) (da db d : D) : Prop := ∀ ok A s E va vb, Room n A → G.base.StaysIn s.heap → FreshOk ok s.heap → Rep ok s.heap va da → Rep ok s.heap vb db →
  wpAny G.M A (binaryOp op va vb) (fun v s' => Stp G.base s s' ∧ Rep ok s'.heap v d) E s
def CmpD (op : CmpOp) (da db : D) (b : Bool) : Prop := ∀ ok A s E va vb, Room n A → G.base.StaysIn s.heap → FreshOk ok s.heap → Rep ok s.heap va da → Rep ok s.heap vb db →
  wpAny G.M A (compareOp op va vb) (fun v s' => Stp G.base s s' ∧ v = .bool b) E s
def CallD (f : Value) (ds : List D) (d : D) : Prop := ∀ ok A s E vs, Room n A → G.base.StaysIn s.heap → FreshOk ok s.heap → RepAll ok s.heap vs ds →
  wpAny G.M A (call f vs) (fun v s' => Stp G.base s s' ∧ Rep ok s'.heap v d) E s
def TruD (d : D) (b : Bool) : Prop := ∀ ok A s E v, Room n A → G.base.StaysIn s.heap → FreshOk ok s.heap → Rep ok s.heap v d →
  wpAny G.M A (truthy v) (fun r s' => Stp G.base s s' ∧ r = b) E s
def IdxD (do_ di d : D) : Prop := ∀ ok A s E vo vi, Room n A → G.base.StaysIn s.heap → FreshOk ok s.heap → Rep ok s.heap vo do_ → Rep ok s.heap vi di →
  wpAny G.M A (getItem vo vi) (fun v s' => Stp G.base s s' ∧ Rep ok s'.heap v d) E s
/-- the call of a method comes to this callee with the object first -/
def MethD (d : D) (name : Str) (f : Value) : Prop := ∀ ok A s E v pl, Room n A → G.base.StaysIn s.heap → FreshOk ok s.heap → Rep ok s.heap v d →
  wpAny G.M A (getMethod v name pl) (fun r s' => Stp G.base s s' ∧ r = (f, [v])) E s
end
end Mine
end
section
open PySem PySem.W PyProof.Rows PySem.Calls
set_option maxRecDepth 100000
namespace Mine
section
variable {G : Gr} {n : Nat} {env : Env} {σ : St}
/-- borrowed: the value may be a list that the frame still fills -/
def EvB (G : Gr) (n : Nat) (env : Env) (σ : St) (e : Expr) (d : D) : Prop := ∀ ok A s E, Room n A → G.base.StaysIn s.heap → Inv G.base ok env σ s.heap →
  wpAny G.M A (eval e env) (fun v s' => Stp G.base s s' ∧ Rep ok s'.heap v d) E s
theorem Ev.b {e : Expr} {d : D} (h : Ev G n env σ e d) : EvB G n env σ e d := fun ok A s E r k i =>
  wpAny_mono (h ok A s E r k i) (fun _ _ p => ⟨p.1, p.2.weak fun _ q => q.1⟩) fun _ _ x => x
theorem Ev.cast {e : Expr} {d d' : D} (h : Ev G n env σ e d) (q : d = d') : Ev G n env σ e d' := q ▸ h
def Atomic : D → Bool
  | .none | .bool _ | .int _ | .str _ | .bytes _ | .raw _ => true
  | _ => false
theorem Rep.atomic {ok ok' : Addr → Prop} {h h' : Heap} {v : Value} {d : D} (r : Rep ok h v d) (a : Atomic d = true) : Rep ok' h' v d := by
  cases r <;> first | (cases a; done) | constructor
theorem Ev.int {i : Int} {k : Nat} {p : Pos} : Ev G n env σ (.Constant (.int i) k p) (.int i) := fun _ _ _ _ _ _ _ => wpAny_Constant_int ⟨.tok, .int _ _⟩
theorem Ev.str {x : Str} {k : Nat} {p : Pos} : Ev G n env σ (.Constant (.str x) k p) (.str x) := fun _ _ _ _ _ _ _ => Constant_str ⟨.tok, .str _ _⟩
theorem Ev.bool {b : Bool} {k : Nat} {p : Pos} : Ev G n env σ (.Constant (.bool b) k p) (.bool b) := fun _ _ _ _ _ _ _ => Constant_bool ⟨.refl, .bool _⟩
theorem Ev.none {k : Nat} {p : Pos} : Ev G n env σ (.Constant .none k p) .none := fun _ _ _ _ _ _ _ => Constant_none ⟨.refl, .none⟩
theorem wpAny_holds {A : Around} {E : Value → Shared → Prop} {s : Shared} {x : Str} {p : Pos} {v : Value} {Q : Value → Shared → Prop} {M : Model} (hk : env.scope.kind = .function) (q : Holds env s.heap x v) (h : Q v s)
    (hd : (x == ("__debug__" : Str)) = false) (hc : (x == ("__classdict__" : Str)) = false) : wpAny M A (eval (.Name x p) env) Q E s := by
  refine wpAny_Name ?_ hd
  rcases q with ⟨k, m, hn, hv⟩ | ⟨k | k, c, hl, hv⟩
  · exact wpAny_loadName_local hk k hn hv h
  · exact wpAny_loadName_cell hk k hl hv h
  · exact wpAny_loadName_free hk k hl hv h hc
theorem Ev.name {x : Str} {p : Pos} {d : D} (hl : σ.lookup x = some (.val d)) (hd : (x == ("__debug__" : Str)) = false := by decide) (hc : (x == ("__classdict__" : Str)) = false := by decide) :
    Ev G n env σ (.Name x p) d := fun _ _ _ _ _ _ i => by
  obtain ⟨v, q, r⟩ := i.vals x d hl
  exact wpAny_holds i.frame.kind q ⟨.refl, r⟩ hd hc
theorem EvB.own {x : Str} {p : Pos} {a : Addr} {ds : List D} (hl : σ.lookup x = some (.own a ds)) (hd : (x == ("__debug__" : Str)) = false := by decide) (hc : (x == ("__classdict__" : Str)) = false := by decide) :
    EvB G n env σ (.Name x p) (.list ds) := fun _ _ _ _ _ _ i => by
  obtain ⟨q, o, vs, l, r⟩ := i.owns x a ds hl
  exact wpAny_holds i.frame.kind q ⟨.refl, .list o l.list (r.weak fun _ q => q.1)⟩ hd hc
theorem Ev.global {x : Str} {p : Pos} {v : Value} {d : D} (hk : env.kindOf x = some .globalImplicit) (hv : G.mg x = some v) (hr : ∀ ok h, Rep ok h v d) (hd : (x == ("__debug__" : Str)) = false := by decide) :
    Ev G n env σ (.Name x p) d := fun _ _ _ _ _ k i =>
  Name_function_global i.frame.kind hk (loadGlobal_global (by rw [i.frame.glob]; exact G.g.keeps k) hv ⟨.refl, hr _ _⟩) hd
theorem Ev.builtin {x : Str} {p : Pos} {v : Value} (hk : env.kindOf x = some .globalImplicit) (hg : G.mg x = .none) (hv : bootBuiltins x = some v) (hn : x ≠ "__name__" := by decide) (hd : (x == ("__debug__" : Str)) = false := by decide) :
    Ev G n env σ (.Name x p) (.raw v) := fun _ _ _ _ _ k i =>
  Name_function_global i.frame.kind hk (loadGlobal_builtin (by rw [i.frame.glob]; exact G.g.keeps k) hg (by rw [i.frame.blt]; exact G.b.keeps k) ((G.bb x hn).trans hv) ⟨.refl, .raw _⟩) hd
theorem Ev.binop {a b : Expr} {op : Operator} {p : Pos} {da db d : D} (ha : Ev G n env σ a da) (hb : Ev G n env σ b db) (ho : BinD G n op da db d) : Ev G n env σ (.BinOp a op b p) d := fun ok A s E r k i =>
  wpAny_BinOp (wpAny_mono (ha ok A s E r k i) (fun va s₁ p₁ => wpAny_mono (hb ok A s₁ E r (p₁.1.ext.base k) (i.ext p₁.1.ext)) (fun vb s₂ p₂ =>
    have st := p₁.1.trans p₂.1
    wpAny_mono (ho _ A s₂ E va vb r (st.ext.base k) (i.ext st.ext).freshO (p₁.2.stp p₂.1) p₂.2) (fun _ _ p₃ => ⟨st.trans p₃.1, p₃.2⟩) fun _ _ x => x) fun _ _ x => x) fun _ _ x => x)
theorem Ev.cmp {a b : Expr} {op : CmpOp} {p : Pos} {da db : D} {c : Bool} (ha : EvB G n env σ a da) (hb : EvB G n env σ b db) (ho : CmpD G n op da db c) (hm : behindInMarks op b = false := by with_unfolding_all rfl) :
    Ev G n env σ (.Compare a [op] [b] p) (.bool c) := fun ok A s E r k i =>
  wpAny_Compare1 (wpAny_mono (ha ok A s E r k i) (fun va s₁ p₁ => wpAny_mono (hb ok A s₁ E r (p₁.1.ext.base k) (i.ext p₁.1.ext)) (fun vb s₂ p₂ =>
    have st := p₁.1.trans p₂.1
    wpAny_mono (ho _ A s₂ E va vb r (st.ext.base k) (i.ext st.ext).fresh (p₁.2.stp p₂.1) p₂.2) (fun _ _ p₃ => ⟨st.trans p₃.1, p₃.2 ▸ .bool _⟩) fun _ _ x => x) fun _ _ x => x) fun _ _ x => x) hm
theorem Tr.cmp {a b : Expr} {op : CmpOp} {p : Pos} {da db : D} {c : Bool} (ha : EvB G n env σ a da) (hb : EvB G n env σ b db) (ho : CmpD G n op da db c) (hm : behindInMarks op b = false := by with_unfolding_all rfl) :
    Tr G n env σ (.Compare a [op] [b] p) c := fun ok A s E r k i =>
  wpAny_isTrue_Compare1 (wpAny_mono (ha ok A s E r k i) (fun va s₁ p₁ => wpAny_mono (hb ok A s₁ E r (p₁.1.ext.base k) (i.ext p₁.1.ext)) (fun vb s₂ p₂ =>
    have st := p₁.1.trans p₂.1
    wpAny_mono (ho _ A s₂ E va vb r (st.ext.base k) (i.ext st.ext).fresh (p₁.2.stp p₂.1) p₂.2) (fun _ _ p₃ => by rw [p₃.2]; exact wpAny_truthy_bool ⟨st.trans p₃.1, rfl⟩) fun _ _ x => x) fun _ _ x => x) fun _ _ x => x) hm
theorem Tr.plain {e : Expr} {d : D} {c : Bool} (h : EvB G n env σ e d) (ht : TruD G n d c)
    (he : ∀ whole, isTrue e env whole = (do let v ← whole; standAt e.pos; holding [v] (truthy v)) := by intro _; rfl) : Tr G n env σ e c := fun ok A s E r k i =>
  isTrue_plain (wpAny_mono (h ok A s E r k i) (fun v s₁ p₁ => wpAny_mono (ht ok A s₁ E v r (p₁.1.ext.base k) (i.ext p₁.1.ext).fresh p₁.2) (fun _ _ p₂ => ⟨p₁.1.trans p₂.1, p₂.2⟩) fun _ _ x => x) fun _ _ x => x) (he _)
theorem Tr.not {e : Expr} {p : Pos} {c : Bool} (h : Tr G n env σ e c) : Tr G n env σ (.UnaryOp .Not e p) (!c) := fun ok A s E r k i =>
  isTrue_not (wpAny_mono (h ok A s E r k i) (fun _ _ p => ⟨p.1, by rw [p.2]⟩) fun _ _ x => x)
theorem Tr.or_nil {p : Pos} : Tr G n env σ (.BoolOp .Or [] p) false := fun _ _ _ _ _ _ _ => isTrue_or_nil ⟨.refl, rfl⟩
theorem Tr.or {e : Expr} {es : List Expr} {p : Pos} {c c' : Bool} (h : Tr G n env σ e c) (h' : c = false → Tr G n env σ (.BoolOp .Or es p) c') : Tr G n env σ (.BoolOp .Or (e :: es) p) (c || c') := fun ok A s E r k i =>
  isTrue_or (wpAny_mono (h ok A s E r k i) (fun b s₁ p₁ => by
    obtain ⟨st, rfl⟩ := p₁
    cases b with
    | true => exact ⟨st, rfl⟩
    | false => exact wpAny_mono (h' rfl ok A s₁ E r (st.ext.base k) (i.ext st.ext)) (fun _ _ p₂ => ⟨st.trans p₂.1, by rw [p₂.2]; rfl⟩) fun _ _ x => x) fun _ _ x => x)
theorem Tr.cast {e : Expr} {c c' : Bool} (h : Tr G n env σ e c) (q : c = c') : Tr G n env σ e c' := q ▸ h
theorem Ev.ifexp {t a b : Expr} {p : Pos} {c : Bool} {d : D} (h : Tr G n env σ t c) (ha : c = true → Ev G n env σ a d) (hb : c = false → Ev G n env σ b d) : Ev G n env σ (.IfExp t a b p) d := fun ok A s E r k i =>
  IfExp_ (wpAny_mono (h ok A s E r k i) (fun b s₁ p₁ => by
    obtain ⟨st, rfl⟩ := p₁
    cases b with
    | true => exact wpAny_mono (ha rfl ok A s₁ E r (st.ext.base k) (i.ext st.ext)) (fun _ _ p₂ => ⟨st.trans p₂.1, p₂.2⟩) fun _ _ x => x
    | false => exact wpAny_mono (hb rfl ok A s₁ E r (st.ext.base k) (i.ext st.ext)) (fun _ _ p₂ => ⟨st.trans p₂.1, p₂.2⟩) fun _ _ x => x) fun _ _ x => x)
/-- a row of arguments or items -/
def EvL (G : Gr) (n : Nat) (env : Env) (σ : St) (es : List Expr) (ds : List D) : Prop := ∀ ok A s E p, Room n A → G.base.StaysIn s.heap → Inv G.base ok env σ s.heap →
  wpAny G.M A (spliced (backTo p (starEach es env))) (fun vs s' => Stp G.base s s' ∧ RepAll (okO ok σ) s'.heap vs ds) E s
def EvLB (G : Gr) (n : Nat) (env : Env) (σ : St) (es : List Expr) (ds : List D) : Prop := ∀ ok A s E p, Room n A → G.base.StaysIn s.heap → Inv G.base ok env σ s.heap →
  wpAny G.M A (spliced (backTo p (starEach es env))) (fun vs s' => Stp G.base s s' ∧ RepAll ok s'.heap vs ds) E s
def noStar : List Expr → Bool
  | [] => true
  | .Starred .. :: _ => false
  | _ :: r => noStar r
theorem EvL.nil : EvL G n env σ [] [] := fun _ _ _ _ _ _ _ _ => args_nil ⟨.refl, .nil⟩
theorem EvL.cons {e : Expr} {es : List Expr} {d : D} {ds : List D} (h : Ev G n env σ e d) (hs : EvL G n env σ es ds) (he : starEach (e :: es) env = (false, eval e env) :: starEach es env := by rfl) : EvL G n env σ (e :: es) (d :: ds) := fun ok A s E p r k i =>
  args_cons (wpAny_mono (h ok A s E r k i) (fun v s₁ p₁ => wpAny_mono (hs ok A s₁ E p r (p₁.1.ext.base k) (i.ext p₁.1.ext)) (fun vs s₂ p₂ => ⟨p₁.1.trans p₂.1, .cons (p₁.2.stp p₂.1) p₂.2⟩) fun _ _ x => x) fun _ _ x => x) he
theorem EvLB.nil : EvLB G n env σ [] [] := fun _ _ _ _ _ _ _ _ => args_nil ⟨.refl, .nil⟩
theorem EvLB.cons {e : Expr} {es : List Expr} {d : D} {ds : List D} (h : EvB G n env σ e d) (hs : EvLB G n env σ es ds) (he : starEach (e :: es) env = (false, eval e env) :: starEach es env := by rfl) : EvLB G n env σ (e :: es) (d :: ds) := fun ok A s E p r k i =>
  args_cons (wpAny_mono (h ok A s E r k i) (fun v s₁ p₁ => wpAny_mono (hs ok A s₁ E p r (p₁.1.ext.base k) (i.ext p₁.1.ext)) (fun vs s₂ p₂ => ⟨p₁.1.trans p₂.1, .cons (p₁.2.stp p₂.1) p₂.2⟩) fun _ _ x => x) fun _ _ x => x) he
/-- what may stand at a call's head -/
inductive Callee (G : Gr) : Value → Prop
  | builtin (id : String) : Callee G (.builtin id)
  | type (T : String) : Callee G (.type T)
  | fn {a : Addr} {o : Obj} {fd : FuncData} : G.base.get? a = some o → o.data = .func fd → Callee G (.ref a)
theorem callWith_callee {M : Model} {A : Around} {E : Value → Shared → Prop} {s : Shared} {pos : Pos} {f : Value} {first : List Value} {es : List Expr} {Q : Value → Shared → Prop} (c : Callee G f)
    (hplain : (backTo pos (starEach es env)).any (·.1) = false)
    (h : wpAny M A (spliced (backTo pos (starEach es env))) (fun vs s₁ => G.base.StaysIn s₁.heap ∧ wpAny M A (call f (first ++ vs)) Q E s₁) E s) (hns : noStar es = true) :
    wpAny M A (callWith pos f first (backTo pos (starEach es env)) []) Q E s := by
  have hargs : ∀ {Q' : Args → Shared → Prop}, wpAny M A (spliced (backTo pos (starEach es env))) (fun vs s₁ => Q' ⟨vs, []⟩ s₁) E s → wpAny M A (evalArgs f true (backTo pos (starEach es env)) []) Q' E s := by
    intro Q' hq
    cases es with
    | nil =>
      have e1 : evalArgs f true (backTo pos (starEach [] env)) [] = (pure ⟨[], []⟩ : Sem Args) := rfl
      rw [e1]
      exact fun Γ p hΓ => hq Γ p hΓ
    | cons e r =>
      have he : starEach (e :: r) env = (false, eval e env) :: starEach r env := by
        cases e <;> first | rfl | cases hns
      rw [he] at hq ⊢
      exact evalArgs_plain hq
  cases c with
  | builtin id => exact callWith_builtin hplain (hargs (wpAny_mono h (fun vs s₁ p => p.2) fun _ _ x => x))
  | type T => exact PyProof.Rows.callWith_type hplain (hargs (wpAny_mono h (fun vs s₁ p => p.2) fun _ _ x => x))
  | fn ho hd => exact callWith_function (hargs (wpAny_mono h (fun vs s₁ p => ⟨⟨p.1 _ _ ho, hd⟩, p.2⟩) fun _ _ x => x))
theorem Ev.call {x : Str} {p pos : Pos} {es : List Expr} {f : Value} {ds : List D} {d : D} (hf : Ev G n env σ (.Name x p) (.raw f)) (c : Callee G f) (ha : EvL G n env σ es ds) (hc : CallD G n f ds d)
    (hns : noStar es = true := by rfl) (hplain : (backTo pos (starEach es env)).any (·.1) = false := by rfl) : Ev G n env σ (.Call (.Name x p) es [] pos) d := fun ok A s E r k i =>
  Call_ (wpAny_mono (hf ok A s E r k i) (fun v s₁ p₁ => by
    obtain ⟨st, rp⟩ := p₁
    cases rp
    refine callWith_callee c hplain (wpAny_mono (ha ok A s₁ E pos r (st.ext.base k) (i.ext st.ext)) (fun vs s₂ p₂ => ⟨p₂.1.ext.base (st.ext.base k), ?_⟩) fun _ _ x => x) hns
    have st' := st.trans p₂.1
    exact wpAny_mono (hc _ A s₂ E vs r (st'.ext.base k) (i.ext st'.ext).freshO p₂.2) (fun _ _ p₃ => ⟨st'.trans p₃.1, p₃.2⟩) fun _ _ x => x) fun _ _ x => x)
theorem Ev.callB {x : Str} {p pos : Pos} {es : List Expr} {f : Value} {ds : List D} {d : D} (hf : Ev G n env σ (.Name x p) (.raw f)) (c : Callee G f) (ha : EvLB G n env σ es ds) (hc : CallD G n f ds d) (hat : Atomic d = true)
    (hns : noStar es = true := by rfl) (hplain : (backTo pos (starEach es env)).any (·.1) = false := by rfl) : Ev G n env σ (.Call (.Name x p) es [] pos) d := fun ok A s E r k i =>
  Call_ (wpAny_mono (hf ok A s E r k i) (fun v s₁ p₁ => by
    obtain ⟨st, rp⟩ := p₁
    cases rp
    refine callWith_callee c hplain (wpAny_mono (ha ok A s₁ E pos r (st.ext.base k) (i.ext st.ext)) (fun vs s₂ p₂ => ⟨p₂.1.ext.base (st.ext.base k), ?_⟩) fun _ _ x => x) hns
    have st' := st.trans p₂.1
    exact wpAny_mono (hc _ A s₂ E vs r (st'.ext.base k) (i.ext st'.ext).fresh p₂.2) (fun _ _ p₃ => ⟨st'.trans p₃.1, p₃.2.atomic hat⟩) fun _ _ x => x) fun _ _ x => x)
theorem Ev.sub {o i : Expr} {p : Pos} {do_ di d : D} {T id : String} (ho : Ev G n env σ o do_) (hi : Ev G n env σ i di) (hx : IdxD G n do_ di d)
    (hT : ∀ ok (s : Shared) v, Rep ok s.heap v do_ → s.TypeIs v T) (hl : typeLookup (.type T) "__getitem__" = pure (some (.builtin id)))
    (hs : ∀ a b, ∃ ops, subscripted i false a b = operate ops (getItem a b) := by intro a b; first | exact ⟨[a, b], rfl⟩ | exact ⟨[b, a], rfl⟩) : Ev G n env σ (.Subscript o i p) d := fun ok A s E r k iv =>
  Subscript_ (wpAny_mono (ho ok A s E r k iv) (fun vo s₁ p₁ => wpAny_mono (hi ok A s₁ E r (p₁.1.ext.base k) (iv.ext p₁.1.ext)) (fun vi s₂ p₂ => by
    have st := p₁.1.trans p₂.1
    obtain ⟨ops, hs⟩ := hs vo vi
    exact tail_any (hT _ _ _ (p₁.2.stp p₂.1)) hl (wpAny_mono (hx _ A s₂ E vo vi r (st.ext.base k) (iv.ext st.ext).freshO (p₁.2.stp p₂.1) p₂.2) (fun _ _ p₃ => ⟨st.trans p₃.1, p₃.2⟩) fun _ _ x => x) hs) fun _ _ x => x) fun _ _ x => x)
theorem fresh_get {h : Heap} : h.get? h.objs.size = .none := by
  cases q : h.get? h.objs.size with
  | none => rfl
  | some o => exact absurd (Heap.lt_size q) (Nat.lt_irrefl _)
theorem Ev.list {es : List Expr} {p : Pos} {ds : List D} (h : EvL G n env σ es ds) (hz : ds.length ≤ sizeLine) : Ev G n env σ (.List es p) (.list ds) := fun ok A s E r k i =>
  List_ (wpAny_mono (h ok A s E p r k i) (fun vs s₁ p₁ => by
    refine wpAny_newObj_type ?_ (by show vs.toArray.size ≤ sizeLine; rw [List.size_toArray, p₁.2.length]; exact hz)
    have st : Stp G.base s₁ { s₁ with heap := s₁.heap.push { cls := .type "list", data := .seq vs.toArray } } := .push
    exact ⟨p₁.1.trans st, .list ((i.ext p₁.1.ext).freshO _ fresh_get) ⟨_, Heap.get?_push_size _ rfl, rfl, _, rfl⟩ (p₁.2.stp st)⟩) fun _ _ x => x)
theorem Ev.tuple {es : List Expr} {p : Pos} {k : Nat} {ds : List D} (h : EvL G n env σ es ds) (hz : ds.length ≤ sizeLine) : Ev G n env σ (.Tuple es k p) (.tuple ds) := fun ok A s E r k i =>
  Tuple_ (wpAny_mono (h ok A s E p r k i) (fun vs s₁ p₁ => by
    refine wpAny_newObj_type ?_ (by show vs.toArray.size ≤ sizeLine; rw [List.size_toArray, p₁.2.length]; exact hz)
    have st : Stp G.base s₁ { s₁ with heap := s₁.heap.push { cls := .type "tuple", data := .seq vs.toArray } } := .push
    exact ⟨p₁.1.trans st, .tuple ((i.ext p₁.1.ext).freshO _ fresh_get) ⟨_, Heap.get?_push_size _ rfl, rfl, _, rfl⟩ (p₁.2.stp st)⟩) fun _ _ x => x)
/-- a part of a slice -/
def EvO (G : Gr) (n : Nat) (env : Env) (σ : St) (e : Option Expr) (d : D) : Prop := ∀ ok A s E, Room n A → G.base.StaysIn s.heap → Inv G.base ok env σ s.heap →
  wpAny G.M A (evalPart e env) (fun v s' => Stp G.base s s' ∧ Rep (okO ok σ) s'.heap v d) E s
theorem EvO.none : EvO G n env σ .none .none := fun _ _ _ _ _ _ _ => wpAny_pure ⟨.refl, .none⟩
theorem EvO.some {e : Expr} {d : D} (h : Ev G n env σ e d) : EvO G n env σ (.some e) d := h
theorem Ev.slice {l u st : Option Expr} {p : Pos} {dl du ds : D} (hl : EvO G n env σ l dl) (hu : EvO G n env σ u du) (hs : EvO G n env σ st ds) : Ev G n env σ (.Slice l u st p) (.slice dl du ds) := fun ok A s E r k i =>
  wpAny_Slice (wpAny_mono (hl ok A s E r k i) (fun v1 s₁ p₁ => wpAny_mono (hu ok A s₁ E r (p₁.1.ext.base k) (i.ext p₁.1.ext)) (fun v2 s₂ p₂ => by
    have st := p₁.1.trans p₂.1
    refine wpAny_mono (hs ok A s₂ E r (st.ext.base k) (i.ext st.ext)) (fun v3 s₃ p₃ => ?_) fun _ _ x => x
    have st' := st.trans p₃.1
    have sp : Stp G.base s₃ { s₃ with heap := s₃.heap.push { cls := .type "slice", data := .fields #[v1, v2, v3] } } := .push
    exact ⟨st'.trans sp, .slice ((i.ext st'.ext).freshO _ fresh_get) (Heap.get?_push_size _ rfl) rfl rfl (((p₁.2.stp p₂.1).stp p₃.1).stp sp) ((p₂.2.stp p₃.1).stp sp) (p₃.2.stp sp)⟩) fun _ _ x => x) fun _ _ x => x)
end
end Mine
end
section
open PySem PySem.W PyProof.Rows PySem.Calls
set_option maxRecDepth 100000
namespace Mine
theorem lookup_setS_self {x : Str} {s : Slot} : ∀ σ : St, (setS x s σ).lookup x = some s
  | [] => by simp [setS]
  | (y, t) :: r => by
    unfold setS
    by_cases e : x = y
    · rw [if_pos e]; simp
    · rw [if_neg e, List.lookup_cons, beq_eq_false_iff_ne.mpr e]; exact lookup_setS_self r
theorem lookup_setS_ne {x y : Str} {s : Slot} (n : y ≠ x) : ∀ σ : St, (setS x s σ).lookup y = σ.lookup y
  | [] => by simp [setS, n]
  | (z, t) :: r => by
    unfold setS
    by_cases e : x = z
    · subst e; rw [if_pos rfl, List.lookup_cons, List.lookup_cons, beq_eq_false_iff_ne.mpr n]
    · rw [if_neg e, List.lookup_cons, List.lookup_cons]
      cases y == z <;> simp [lookup_setS_ne n r]
theorem owned_of_lookup {x : Str} {a : Addr} {ds : List D} : ∀ {σ : St}, σ.lookup x = some (.own a ds) → a ∈ owned σ
  | (y, t) :: r, h => by
    rw [List.lookup_cons] at h
    cases e : x == y with
    | true => rw [e] at h; cases h; exact List.mem_cons_self
    | false =>
      rw [e] at h
      have := owned_of_lookup h
      cases t with
      | val d => exact this
      | own b es => exact List.mem_cons_of_mem _ this
def slotAddr : Slot → List Addr
  | .val _ => []
  | .own a _ => [a]
theorem owned_cons (x : Str) (s : Slot) (r : St) : owned ((x, s) :: r) = slotAddr s ++ owned r := by cases s <;> rfl
/-- what setS does to the owned ones -/
theorem owned_setS (x : Str) (s : Slot) : ∀ σ : St, ∃ l₁ l₂ l₃, owned σ = l₁ ++ l₂ ++ l₃ ∧ owned (setS x s σ) = l₁ ++ slotAddr s ++ l₃ ∧ (∀ t, σ.lookup x = some t → l₂ = slotAddr t)
  | [] => ⟨[], [], [], rfl, by cases s <;> rfl, fun t h => by cases h⟩
  | (y, t) :: r => by
    unfold setS
    by_cases e : x = y
    · subst e
      rw [if_pos rfl, owned_cons, owned_cons]
      exact ⟨[], slotAddr t, owned r, by simp, by simp, fun t' h => by simp at h; rw [h]⟩
    · rw [if_neg e, owned_cons, owned_cons]
      obtain ⟨l₁, l₂, l₃, h1, h2, h3⟩ := owned_setS x s r
      refine ⟨slotAddr t ++ l₁, l₂, l₃, by rw [h1]; simp, by rw [h2]; simp, fun t' h => h3 t' ?_⟩
      rw [List.lookup_cons, beq_eq_false_iff_ne.mpr e] at h; exact h
theorem owned_setS_sub {x : Str} {s : Slot} {σ : St} {a : Addr} (h : a ∈ owned (setS x s σ)) : a ∈ owned σ ∨ a ∈ slotAddr s := by
  obtain ⟨l₁, l₂, l₃, h1, h2, _⟩ := owned_setS x s σ
  rw [h2] at h; rw [h1]
  simp only [List.mem_append] at h ⊢
  rcases h with (h | h) | h <;> simp [h]
theorem owned_setS_val {x : Str} {d : D} {σ : St} {a : Addr} (h : a ∈ owned (setS x (.val d) σ)) : a ∈ owned σ := (owned_setS_sub h).elim id fun h => nomatch h
theorem nodup_setS_val {x : Str} {d : D} {σ : St} (h : (owned σ).Nodup) : (owned (setS x (.val d) σ)).Nodup := by
  obtain ⟨l₁, l₂, l₃, h1, h2, _⟩ := owned_setS x (.val d) σ
  rw [h1] at h; rw [h2]
  exact h.sublist (by simp [slotAddr, List.append_assoc])
theorem nodup_setS_own {x : Str} {a : Addr} {ds : List D} {σ : St} (h : (owned σ).Nodup) (n : a ∉ owned σ ∨ ∃ es, σ.lookup x = some (.own a es)) : (owned (setS x (.own a ds) σ)).Nodup := by
  obtain ⟨l₁, l₂, l₃, h1, h2, h3⟩ := owned_setS x (.own a ds) σ
  rw [h2]
  rcases n with n | ⟨es, n⟩
  · rw [h1] at h n
    simp only [slotAddr]
    have h' : (l₁ ++ l₃).Nodup := h.sublist (by simp [List.append_assoc])
    simp only [List.mem_append, not_or] at n
    rw [List.append_assoc]
    rw [List.nodup_append] at h' ⊢
    refine ⟨h'.1, ?_, ?_⟩
    · rw [List.singleton_append, List.nodup_cons]; exact ⟨n.2, h'.2.1⟩
    · intro p hp q hq e
      rw [List.singleton_append, List.mem_cons] at hq
      rcases hq with rfl | hq
      · exact n.1.1 (e ▸ hp)
      · exact h'.2.2 p hp q hq e
  · rw [h1, h3 _ n] at h; exact h
/-- the address goes out of the owned ones -/
theorem notMem_setS_val {x : Str} {a : Addr} {ds : List D} {d : D} {σ : St} (h : (owned σ).Nodup) (l : σ.lookup x = some (.own a ds)) : a ∉ owned (setS x (.val d) σ) := by
  obtain ⟨l₁, l₂, l₃, h1, h2, h3⟩ := owned_setS x (.val d) σ
  rw [h2]; rw [h1, h3 _ l] at h
  simp only [slotAddr, List.append_assoc, List.append_nil] at h ⊢
  intro m
  rw [List.nodup_append] at h
  rcases List.mem_append.mp m with m | m
  · exact h.2.2 a m a (by simp) rfl
  · have := h.2.1; simp at this; exact this.1 m
theorem node_not_frame {env : Env} {h : Heap} {a : Addr} (F : Frame env h) (n : IsNode h a) : ¬ FrW env a := by
  rintro (e | ⟨x, l⟩)
  · obtain ⟨m, o, es, ep, q, d, _⟩ := F.ns
    rw [← e] at q
    cases n with
    | list l => obtain ⟨o', q', _, k, d'⟩ := l; rw [q] at q'; cases q'; rw [d] at d'; cases d'
    | tup l => obtain ⟨o', q', _, k, d'⟩ := l; rw [q] at q'; cases q'; rw [d] at d'; cases d'
    | slice q' _ d' => rw [q] at q'; cases q'; rw [d] at d'; cases d'
    | rng q' => unfold IsRange at q'; rw [q] at q'; cases q'; cases d
  · obtain ⟨v, o, q, d⟩ := F.cells x a l
    cases n with
    | list l => obtain ⟨o', q', _, k, d'⟩ := l; rw [q] at q'; cases q'; rw [d] at d'; cases d'
    | tup l => obtain ⟨o', q', _, k, d'⟩ := l; rw [q] at q'; cases q'; rw [d] at d'; cases d'
    | slice q' _ d' => rw [q] at q'; cases q'; rw [d] at d'; cases d'
    | rng q' => unfold IsRange at q'; rw [q] at q'; cases q'; cases d
end Mine
end
section
open PySem PySem.W PyProof.Rows PySem.Calls
set_option maxRecDepth 100000
namespace Mine
inductive Fl where
  | next | brk | cont
  | ret (d : D)
def FlowIs (ok : Addr → Prop) (h : Heap) : Flow → Fl → Prop
  | .next, .next => True
  | .brk, .brk => True
  | .cont, .cont => True
  | .ret v, .ret d => Rep ok h v d
  | _, _ => False
structure Mv (base : Heap) (W : Addr → Prop) (s s' : Shared) : Prop where
  ext : ExtBut base W s.heap s'.heap
  dom : ∀ b, s'.heap.get? b = none → s.heap.get? b = none
  os : s'.os = s.os
  gens : GensKeep s.gens s'.gens
theorem Stp.mv {base : Heap} {W : Addr → Prop} {s s' : Shared} (x : Stp base s s') : Mv base W s s' := ⟨fun b o _ e => x.ext b o e, fun b e => x.ext.none e, x.os, x.gens⟩
theorem Mv.stp {base : Heap} {W : Addr → Prop} {s s' : Shared} (x : Mv base W s s') (h : ∀ b, W b → s.heap.get? b = none) : Stp base s s' := ⟨fun b o e => x.ext b o (fun q => by rw [h b q] at e; cases e) e, x.os, x.gens⟩
theorem Mv.trans {base : Heap} {W W' : Addr → Prop} {a b c : Shared} (x : Mv base W a b) (y : Mv base W' b c) (h : ∀ p, W' p → W p ∨ a.heap.get? p = none) : Mv base W a c := by
  refine ⟨fun p o n e => ?_, fun p e => x.dom p (y.dom p e), y.os.trans x.os, x.gens.trans y.gens⟩
  obtain ⟨o', e', c', d', k'⟩ := x.ext p o n e
  obtain ⟨o'', e'', c'', d'', k''⟩ := y.ext p o' (fun q => (h p q).elim n fun z => by rw [z] at e; cases e) e'
  refine ⟨o'', e'', c''.trans c', d''.trans d', fun q => ?_⟩
  have := k' q; subst this
  exact k'' q
theorem Mv.base {base : Heap} {W : Addr → Prop} {s s' : Shared} (x : Mv base W s s') (k : base.StaysIn s.heap) (h : ∀ a, W a → base.get? a = none) : base.StaysIn s'.heap := by
  intro b o e
  obtain ⟨o', e', _, _, k'⟩ := x.ext b o (fun q => by rw [h b q] at e; cases e) (k b o e)
  rw [e', k' (.inl (by rw [e]; rfl))]
section
variable {G : Gr} {n : Nat} {env : Env} {σ : St}
def After (G : Gr) (env : Env) (σ : St) (ok : Addr → Prop) (s : Shared) (Q : Fl → St → Prop) (f : Flow) (s' : Shared) : Prop :=
  ∃ fl σ', Q fl σ' ∧ FlowIs ok s'.heap f fl ∧ Inv G.base ok env σ' s'.heap ∧ Mv G.base (Wr env σ) s s' ∧ G.base.StaysIn s'.heap ∧ ∀ a ∈ owned σ', a ∈ owned σ ∨ s.heap.get? a = none
def Ex (G : Gr) (n : Nat) (env : Env) (σ : St) (body : List Stmt) (Q : Fl → St → Prop) : Prop := ∀ ok A s E, Room n A → G.base.StaysIn s.heap → Inv G.base ok env σ s.heap →
  wpAny G.M A (execs body env) (After G env σ ok s Q) E s
def Ex1 (G : Gr) (n : Nat) (env : Env) (σ : St) (st : Stmt) (Q : Fl → St → Prop) : Prop := ∀ ok A s E, Room n A → G.base.StaysIn s.heap → Inv G.base ok env σ s.heap →
  wpAny G.M A (exec st env) (After G env σ ok s Q) E s
theorem After.trans {ok : Addr → Prop} {σ₁ : St} {s s₁ s₂ : Shared} {Q : Fl → St → Prop} {f : Flow} (m : Mv G.base (Wr env σ) s s₁) (o : ∀ a ∈ owned σ₁, a ∈ owned σ ∨ s.heap.get? a = none) (a : After G env σ₁ ok s₁ Q f s₂)
    (z : ∀ b, s₁.heap.get? b = none → s.heap.get? b = none) : After G env σ ok s Q f s₂ := by
  obtain ⟨fl, σ', q, fi, i, m', k, o'⟩ := a
  refine ⟨fl, σ', q, fi, i, m.trans m' ?_, k, fun b hb => ?_⟩
  · rintro p (h | h)
    · exact .inl (.inl h)
    · exact (o p h).imp .inr id
  · rcases o' b hb with h | h
    · exact o b h
    · exact .inr (z b h)
theorem After.mono {ok : Addr → Prop} {s s' : Shared} {Q Q' : Fl → St → Prop} {f : Flow} (a : After G env σ ok s Q f s') (h : ∀ fl σ', Q fl σ' → Q' fl σ') : After G env σ ok s Q' f s' := by
  obtain ⟨fl, σ', q, r⟩ := a
  exact ⟨fl, σ', h _ _ q, r⟩
theorem Ex.mono {body : List Stmt} {Q Q' : Fl → St → Prop} (a : Ex G n env σ body Q) (h : ∀ fl σ', Q fl σ' → Q' fl σ') : Ex G n env σ body Q' := fun ok A s E r k i => wpAny_mono (a ok A s E r k i) (fun _ _ p => p.mono h) fun _ _ x => x
theorem Ex1.mono {st : Stmt} {Q Q' : Fl → St → Prop} (a : Ex1 G n env σ st Q) (h : ∀ fl σ', Q fl σ' → Q' fl σ') : Ex1 G n env σ st Q' := fun ok A s E r k i => wpAny_mono (a ok A s E r k i) (fun _ _ p => p.mono h) fun _ _ x => x
theorem Ex.nil {Q : Fl → St → Prop} (h : Q .next σ) : Ex G n env σ [] Q := fun ok A s E r k i => wpAny_execs_nil ⟨.next, σ, h, trivial, i, Stp.refl.mv, k, fun _ h => .inl h⟩
theorem Ex.cons {st : Stmt} {rest : List Stmt} {Q : Fl → St → Prop} (h : Ex1 G n env σ st fun fl σ' => match fl with | .next => Ex G n env σ' rest Q | fl => Q fl σ') : Ex G n env σ (st :: rest) Q := fun ok A s E r k i =>
  wpAny_execs_cons (wpAny_mono (h ok A s E r k i) (fun f s' a => by
    obtain ⟨fl, σ', q, fi, i', m, k', o⟩ := a
    cases f <;> cases fl <;> first | exact fi.elim | skip
    · exact wpAny_mono (q ok A s' E r k' i') (fun _ _ a => a.trans m o m.dom) fun _ _ x => x
    · exact ⟨.brk, σ', q, trivial, i', m, k', o⟩
    · exact ⟨.cont, σ', q, trivial, i', m, k', o⟩
    · exact ⟨.ret _, σ', q, fi, i', m, k', o⟩) fun _ _ x => x)
/-- a statement that only steps on to a state -/
theorem Ex.step {st : Stmt} {rest : List Stmt} {Q : Fl → St → Prop} {P : St → Prop} (h : Ex1 G n env σ st fun fl σ' => fl = .next ∧ P σ') (hr : ∀ σ', P σ' → Ex G n env σ' rest Q) : Ex G n env σ (st :: rest) Q :=
  .cons (h.mono fun fl σ' p => by obtain ⟨rfl, p⟩ := p; exact hr σ' p)
theorem Ex.one {st : Stmt} {rest : List Stmt} {Q : Fl → St → Prop} {σ' : St} (h : Ex1 G n env σ st fun fl σ'' => fl = .next ∧ σ'' = σ') (hr : Ex G n env σ' rest Q) : Ex G n env σ (st :: rest) Q :=
  .step h fun _ e => e ▸ hr
/-- a name of the frame that may be stored -/
def Storable (env : Env) (x : Str) : Prop := env.kindOf x = some .local ∨ (env.kindOf x = some .cell ∧ (env.cells.lookup x).isSome = true)
theorem cells_inj {cs : List (Str × Addr)} (hp : cs.Pairwise fun x y => x.2 ≠ y.2) {x y : Str} {c : Addr} (hx : cs.lookup x = some c) (hy : cs.lookup y = some c) : x = y :=
  name_of_addr hp (mem_of_lookup hx) (mem_of_lookup hy)
theorem wpAny_store {M : Model} {A : Around} {E : Value → Shared → Prop} {s : Shared} {base : Heap} {x : Str} {v : Value} {Q : Unit → Shared → Prop} (F : Frame env s.heap) (hx : Storable env x)
    (h : ∀ s', Holds env s'.heap x v → (∀ y u, y ≠ x → Holds env s.heap y u → Holds env s'.heap y u) → Frame env s'.heap → Mv base (FrW env) s s' → Q () s') : wpAny M A (storeName env x v) Q E s := by
  rcases hx with hk | ⟨hk, hc⟩
  · obtain ⟨m, hn⟩ := F.ns
    refine wpAny_storeName_local hk hn (fun h' hn' hs' => ?_) (by rw [F.kind]; rfl)
    have hL : ∃ o, h'.get? env.locals = some o := let ⟨o, _, _, q, _⟩ := hn'; ⟨o, q⟩
    have keep : ∀ b, b ≠ env.locals → h'.get? b = s.heap.get? b := fun b hb => hs'.2 b hb
    refine h _ (.inl ⟨hk, _, hn', by simp⟩) (fun y u hy q => ?_) ⟨F.kind, ⟨_, hn'⟩, fun z c l => ?_, F.apart, F.away, F.glob, F.blt⟩ ⟨fun b o w e => ⟨o, (keep b fun q => w (.inl q)).trans e, rfl, rfl, fun _ => rfl⟩, fun b e => ?_, rfl, .refl⟩
    · rcases q with ⟨k, m', n', r⟩ | ⟨k, c, l, r⟩
      · refine .inl ⟨k, _, hn', ?_⟩
        have : m' y = m y := by
          obtain ⟨o, es, ep, q1, q2, _, q3⟩ := n'
          obtain ⟨o₂, es₂, ep₂, p1, p2, _, p3⟩ := hn
          rw [q1] at p1; cases p1; rw [q2] at p2; cases p2
          rw [← q3, ← p3]
        simp [hy, ← this, r]
      · exact .inr ⟨k, c, l, r.sameBut hs' (F.away y c l)⟩
    · obtain ⟨u, q⟩ := F.cells z c l
      exact ⟨u, q.sameBut hs' (F.away z c l)⟩
    · by_cases hb : b = env.locals
      · obtain ⟨o, q⟩ := hL
        have e' : h'.get? b = none := e
        rw [hb, q] at e'; cases e'
      · rw [← keep b hb]; exact e
  · obtain ⟨c, hc⟩ := Option.isSome_iff_exists.mp hc
    obtain ⟨u₀, hcell⟩ := F.cells x c hc
    refine wpAny_storeName_cell F.kind hk hc hcell fun h' hc' hs' => ?_
    have keep : ∀ b, b ≠ c → h'.get? b = s.heap.get? b := fun b hb => hs'.2 b hb
    obtain ⟨m, hn⟩ := F.ns
    refine h _ (.inr ⟨.inl hk, c, hc, hc'⟩) (fun y u hy q => ?_) ⟨F.kind, ⟨m, hn.sameBut hs' (Ne.symm (F.away x c hc))⟩, fun z c' l => ?_, F.apart, F.away, F.glob, F.blt⟩ ⟨fun b o w e => ⟨o, (keep b fun q => w (.inr ⟨x, q ▸ hc⟩)).trans e, rfl, rfl, fun _ => rfl⟩, fun b e => ?_, rfl, .refl⟩
    · rcases q with ⟨k, m', n', r⟩ | ⟨k, c', l, r⟩
      · exact .inl ⟨k, m', n'.sameBut hs' (Ne.symm (F.away x c hc)), r⟩
      · exact .inr ⟨k, c', l, r.sameBut hs' fun q => hy (cells_inj F.apart l (q ▸ hc))⟩
    · by_cases hz : c' = c
      · subst hz; exact ⟨_, hc'⟩
      · obtain ⟨u, q⟩ := F.cells z c' l
        exact ⟨u, q.sameBut hs' hz⟩
    · by_cases hb : b = c
      · obtain ⟨o, q, _⟩ := hc'
        have e' : h'.get? b = none := e
        rw [hb, q] at e'; cases e'
      · rw [← keep b hb]; exact e
end
end Mine
end
section
open PySem PySem.W PyProof.Rows PySem.Calls
set_option maxRecDepth 100000
namespace Mine
section
variable {G : Gr} {n : Nat} {env : Env} {σ : St}
theorem Inv.set_val {base : Heap} {ok : Addr → Prop} {s s' : Shared} {x : Str} {v : Value} {d : D} (i : Inv base ok env σ s.heap) (m : Mv base (FrW env) s s') (F : Frame env s'.heap) (hx : Holds env s'.heap x v)
    (ho : ∀ y u, y ≠ x → Holds env s.heap y u → Holds env s'.heap y u) (r : Rep (okO ok σ) s.heap v d) : Inv base ok env (setS x (.val d) σ) s'.heap := by
  have nf : ∀ {P : Addr → Prop} a, P a → IsNode s.heap a → ¬ FrW env a := fun a _ q => node_not_frame i.frame q
  have up : ∀ a, okO ok σ a → okO ok (setS x (.val d) σ) a := fun a q => ⟨q.1, fun z => q.2 (owned_setS_val z)⟩
  refine ⟨F, fun a w => i.off a (w.imp id fun z => owned_setS_val z), fun b e => i.fresh b (m.dom b e), fun y e l => ?_, fun y a ds l => ?_, fun a h => ?_, nodup_setS_val i.once⟩
  · by_cases hy : y = x
    · subst hy
      rw [lookup_setS_self] at l; cases l
      exact ⟨v, hx, r.extBut m.ext nf fun a q _ => up a q⟩
    · rw [lookup_setS_ne hy] at l
      obtain ⟨u, p, q⟩ := i.vals y e l
      exact ⟨u, ho y u hy p, q.extBut m.ext nf fun a q _ => up a q⟩
  · by_cases hy : y = x
    · subst hy; rw [lookup_setS_self] at l; cases l
    · rw [lookup_setS_ne hy] at l
      obtain ⟨p, q, vs, lst, rs⟩ := i.owns y a ds l
      exact ⟨ho y _ hy p, q, vs, m.ext.own (node_not_frame i.frame (.list lst.list)) lst, rs.extBut m.ext nf fun a q _ => up a q⟩
  · obtain ⟨vs, lst⟩ := i.there a (owned_setS_val h)
    exact ⟨vs, m.ext.own (node_not_frame i.frame (.list lst.list)) lst⟩
theorem Mv.weak {base : Heap} {W W' : Addr → Prop} {s s' : Shared} (x : Mv base W s s') (h : ∀ a, W a → W' a) : Mv base W' s s' := ⟨fun b o n e => x.ext b o (fun q => n (h b q)) e, x.dom, x.os, x.gens⟩
/-- x = e -/
theorem Ex1.assign {x : Str} {e : Expr} {p pos : Pos} {d : D} (h : Ev G n env σ e d) (hx : Storable env x) (hs : swapsWith e (some (.Name x p)) pos.line env = pure false := by rfl) :
    Ex1 G n env σ (.Assign [.Name x p] e pos) fun fl σ' => fl = .next ∧ σ' = setS x (.val d) σ := fun ok A s E r k i =>
  wpAny_Assign_Name (wpAny_mono (h ok A s E r k i) (fun v s₁ p₁ => by
    have i₁ := i.ext p₁.1.ext
    refine wpAny_store (base := G.base) i₁.frame hx fun s₂ hv ho F m => ?_
    have m' : Mv G.base (Wr env σ) s s₂ := (p₁.1.mv (W := Wr env σ)).trans (m.weak fun _ w => Or.inl w) fun _ w => .inl w
    exact ⟨.next, _, ⟨rfl, rfl⟩, trivial, i₁.set_val m F hv ho p₁.2, m', m'.base k i.off, fun a w => .inl (owned_setS_val w)⟩) fun _ _ x => x) hs
/-- an expression that makes a list -/
def EvF (G : Gr) (n : Nat) (env : Env) (σ : St) (e : Expr) (ds : List D) : Prop := ∀ ok A s E, Room n A → G.base.StaysIn s.heap → Inv G.base ok env σ s.heap →
  wpAny G.M A (eval e env) (fun v s' => Stp G.base s s' ∧ ∃ a vs, v = .ref a ∧ s.heap.get? a = none ∧ OwnL s'.heap a vs ∧ RepAll (fun b => okO ok σ b ∧ b ≠ a) s'.heap vs ds) E s
theorem EvF.list {es : List Expr} {p : Pos} {ds : List D} (h : EvL G n env σ es ds) (hz : ds.length ≤ sizeLine) : EvF G n env σ (.List es p) ds := fun ok A s E r k i =>
  List_ (wpAny_mono (h ok A s E p r k i) (fun vs s₁ p₁ => by
    refine wpAny_newObj_type ?_ (by show vs.toArray.size ≤ sizeLine; rw [List.size_toArray, p₁.2.length]; exact hz)
    have st : Stp G.base s₁ { s₁ with heap := s₁.heap.push { cls := .type "list", data := .seq vs.toArray } } := .push
    refine ⟨p₁.1.trans st, _, vs, rfl, p₁.1.ext.none fresh_get, ⟨_, Heap.get?_push_size _ rfl⟩, p₁.2.ext st.ext fun b q z => ⟨q, fun e => ?_⟩⟩
    rw [e, fresh_get] at z; cases z) fun _ _ x => x)
/-- a new list is stored, x from now on the frame's own to fill -/
theorem After.own {x : Str} {a : Addr} {vs : List Value} {ds : List D} {ok : Addr → Prop} {s s₁ s₂ : Shared} (k : G.base.StaysIn s.heap) (i : Inv G.base ok env σ s.heap) (st : Stp G.base s s₁) (f : s.heap.get? a = none) (l : OwnL s₁.heap a vs) (rs : RepAll (fun b => okO ok σ b ∧ b ≠ a) s₁.heap vs ds)
    (hv : Holds env s₂.heap x (.ref a)) (ho : ∀ y u, y ≠ x → Holds env s₁.heap y u → Holds env s₂.heap y u) (F : Frame env s₂.heap) (m : Mv G.base (FrW env) s₁ s₂) :
    Inv G.base ok env (setS x (.own a ds) σ) s₂.heap ∧ Mv G.base (Wr env σ) s s₂ ∧ G.base.StaysIn s₂.heap ∧ ∀ b ∈ owned (setS x (.own a ds) σ), b ∈ owned σ ∨ b = a := by
    have i₁ := i.ext st.ext
    have m' : Mv G.base (Wr env σ) s s₂ := (st.mv (W := Wr env σ)).trans (m.weak fun _ w => Or.inl w) fun _ w => .inl w
    have hno : a ∉ owned σ := fun w => by obtain ⟨_, _, q⟩ := i.there a w; rw [f] at q; cases q
    have hb : G.base.get? a = none := by
      cases q : G.base.get? a with
      | none => rfl
      | some o => rw [k a o q] at f; cases f
    have old : ∀ b, (s.heap.get? b).isSome = true → b ≠ a := fun b q e => by rw [e, f] at q; cases q
    refine ⟨?_, m', m'.base k i.off, fun b w => (owned_setS_sub w).imp id fun w => List.mem_singleton.mp w⟩
    have hax : Inv G.base ok env σ s.heap := i
    -- the trees of the other names stood before the list was made
    have i₀ : Inv G.base (fun b => ok b ∧ b ≠ a) env σ s₁.heap := by
      refine ⟨i₁.frame, i₁.off, fun b e => ⟨i₁.fresh b e, fun q => ?_⟩, fun y d l' => ?_, fun y b es l' => ?_, i₁.there, i₁.once⟩
      · obtain ⟨_, q'⟩ := l; rw [← q, e] at q'; cases q'
      · obtain ⟨u, p, q⟩ := i.vals y d l'
        exact ⟨u, p.ext st.ext, q.ext st.ext fun b w z => ⟨⟨w.1, old b z⟩, w.2⟩⟩
      · obtain ⟨p, q, us, w, t⟩ := i.owns y b es l'
        exact ⟨p.ext st.ext, ⟨q, old b w.some⟩, us, st.ext.own w, t.ext st.ext fun b w z => ⟨⟨w.1, old b z⟩, w.2⟩⟩
    have up : ∀ b, okO (fun b => ok b ∧ b ≠ a) σ b → okO ok (setS x (.own a ds) σ) b := fun b q => ⟨q.1.1, fun z => (owned_setS_sub z).elim q.2 fun w => q.1.2 (List.mem_singleton.mp w)⟩
    have nf : ∀ {P : Addr → Prop} a, P a → IsNode s₁.heap a → ¬ FrW env a := fun a _ q => node_not_frame i₁.frame q
    have lst' : ∀ {b us}, OwnL s₁.heap b us → OwnL s₂.heap b us := fun {b us} lst => m.ext.own (node_not_frame i₁.frame (.list lst.list)) lst
    refine ⟨F, fun b w => ?_, fun b e => i₁.fresh b (m.dom b e), fun y e l' => ?_, fun y b es l' => ?_, fun b h => ?_, nodup_setS_own i.once (.inl hno)⟩
    · rcases w with w | w
      · exact i.off b (.inl w)
      · rcases owned_setS_sub w with w | w
        · exact i.off b (.inr w)
        · rw [List.mem_singleton.mp w]; exact hb
    · by_cases hy : y = x
      · subst hy; rw [lookup_setS_self] at l'; cases l'
      · rw [lookup_setS_ne hy] at l'
        obtain ⟨u, p, q⟩ := i₀.vals y e l'
        exact ⟨u, ho y u hy p, q.extBut m.ext nf fun b q _ => up b q⟩
    · by_cases hy : y = x
      · subst hy
        rw [lookup_setS_self] at l'; cases l'
        exact ⟨hv, i.fresh a f, vs, lst' l, rs.extBut m.ext nf fun b q _ => up b ⟨⟨q.1.1, q.2⟩, q.1.2⟩⟩
      · rw [lookup_setS_ne hy] at l'
        obtain ⟨p, q, us, lst, r⟩ := i₀.owns y b es l'
        exact ⟨ho y _ hy p, q.1, us, lst' lst, r.extBut m.ext nf fun b q _ => up b q⟩
    · rcases owned_setS_sub h with h | h
      · exact (i₁.there b h).imp fun _ => lst'
      · rw [List.mem_singleton.mp h]; exact ⟨_, lst' l⟩
/-- x = [..], x from now on the frame's own to fill -/
theorem Ex1.assignF {x : Str} {e : Expr} {p pos : Pos} {ds : List D} (h : EvF G n env σ e ds) (hx : Storable env x) (hs : swapsWith e (some (.Name x p)) pos.line env = pure false := by rfl) :
    Ex1 G n env σ (.Assign [.Name x p] e pos) fun fl σ' => fl = .next ∧ ∃ a, σ' = setS x (.own a ds) σ := fun ok A s E r k i =>
  wpAny_Assign_Name (wpAny_mono (h ok A s E r k i) (fun v s₁ p₁ => by
    obtain ⟨st, a, vs, rfl, f, l, rs⟩ := p₁
    refine wpAny_store (base := G.base) (i.ext st.ext).frame hx fun s₂ hv ho F m => ?_
    obtain ⟨i', m', k', o'⟩ := After.own k i st f l rs hv ho F m
    exact ⟨.next, _, ⟨rfl, a, rfl⟩, trivial, i', m', k', fun b w => (o' b w).imp id fun w => by rw [w]; exact f⟩) fun _ _ x => x) hs
theorem Ex1.ret {e : Expr} {pos : Pos} {d : D} {Q : Fl → St → Prop} (h : EvB G n env σ e d) (q : Q (.ret d) σ) : Ex1 G n env σ (.Return (some e) pos) Q := fun ok A s E r k i =>
  wpAny_Return_some (wpAny_mono (h ok A s E r k i) (fun v s₁ p₁ => ⟨.ret d, σ, q, p₁.2, i.ext p₁.1.ext, p₁.1.mv, p₁.1.ext.base k, fun _ w => .inl w⟩) fun _ _ x => x)
theorem Ex1.ite {t : Expr} {a b : List Stmt} {pos : Pos} {c : Bool} {Q : Fl → St → Prop} (h : Tr G n env σ t c) (ha : c = true → Ex G n env σ a Q) (hb : c = false → Ex G n env σ b Q) : Ex1 G n env σ (.If t a b pos) Q := fun ok A s E r k i =>
  wpAny_If (wpAny_mono (h ok A s E r k i) (fun c' s₁ p₁ => by
    obtain ⟨st, rfl⟩ := p₁
    have go : ∀ body, Ex G n env σ body Q → wpAny G.M A (execs body env) (After G env σ ok s Q) E s₁ := fun body hq =>
      wpAny_mono (hq ok A s₁ E r (st.ext.base k) (i.ext st.ext)) (fun _ _ a => a.trans st.mv (fun _ w => .inl w) fun b e => st.ext.none e) fun _ _ x => x
    cases c' with
    | true => exact go _ (ha rfl)
    | false => exact go _ (hb rfl)) fun _ _ x => x)
end
end Mine
end
section
open PySem PySem.W PyProof.Rows PySem.Calls
set_option maxRecDepth 100000
namespace Mine
section
variable {G : Gr} {n : Nat} {env : Env} {σ : St}
theorem owned_setS_same {x : Str} {a : Addr} {ds es : List D} (l : σ.lookup x = some (.own a ds)) : owned (setS x (.own a es) σ) = owned σ := by
  obtain ⟨l₁, l₂, l₃, h1, h2, h3⟩ := owned_setS x (.own a es) σ
  rw [h1, h2, h3 _ l]; rfl
/-- the frame's own list is filled on -/
theorem Inv.upd {base : Heap} {ok : Addr → Prop} {s : Shared} {h' : Heap} {x : Str} {a : Addr} {vs : List Value} {ds ds' : List D} (i : Inv base ok env σ s.heap) (l : σ.lookup x = some (.own a ds))
    (hs : Heap.SameBut a s.heap h') (hl : OwnL h' a vs) (rs : RepAll (okO ok σ) s.heap vs ds') : Inv base ok env (setS x (.own a ds') σ) h' ∧ ∀ tk, Mv base (Wr env σ) s { s with heap := h', toks := tk } := by
  have hm := owned_of_lookup l
  obtain ⟨us, hus⟩ := i.there a hm
  have nfa : ¬ FrW env a := node_not_frame i.frame (.list hus.list)
  have keep : ∀ b, b ≠ a → h'.get? b = s.heap.get? b := fun b hb => hs.2 b hb
  have X : ExtBut base (· = a) s.heap h' := fun b o w e => ⟨o, (keep b w).trans e, rfl, rfl, fun _ => rfl⟩
  have nf : ∀ b, okO ok σ b → IsNode s.heap b → ¬ (b = a) := fun b q _ e => q.2 (e ▸ hm)
  have eo := owned_setS_same (es := ds') l
  have hok : okO ok (setS x (.own a ds') σ) = okO ok σ := by funext b; unfold okO; rw [eo]
  have hh : ∀ y v, Holds env s.heap y v → Holds env h' y v := fun y v q => by
    rcases q with ⟨k, m, hn, r⟩ | ⟨k, c, hc, r⟩
    · exact .inl ⟨k, m, hn.sameBut hs fun e => nfa (.inl e.symm), r⟩
    · exact .inr ⟨k, c, hc, r.sameBut hs fun e => nfa (.inr ⟨y, e ▸ hc⟩)⟩
  have dom : ∀ b, h'.get? b = none → s.heap.get? b = none := fun b e => by
    by_cases hb : b = a
    · have := hl.some; rw [← hb, e] at this; cases this
    · rw [← keep b hb]; exact e
  refine ⟨⟨⟨i.frame.kind, ?_, fun y c q => ?_, i.frame.apart, i.frame.away, i.frame.glob, i.frame.blt⟩, fun b w => i.off b (w.imp id fun w => eo ▸ w), fun b e => i.fresh b (dom b e), fun y d q => ?_, fun y b es q => ?_, fun b w => ?_, eo ▸ i.once⟩, fun tk => ⟨fun b o w e => X b o (fun q => w (.inr (q ▸ hm))) e, dom, rfl, .refl⟩⟩
  · obtain ⟨m, hn⟩ := i.frame.ns
    exact ⟨m, hn.sameBut hs fun e => nfa (.inl e.symm)⟩
  · obtain ⟨v, hv⟩ := i.frame.cells y c q
    exact ⟨v, hv.sameBut hs fun e => nfa (.inr ⟨y, e ▸ q⟩)⟩
  · rw [hok]
    by_cases hy : y = x
    · subst hy; rw [lookup_setS_self] at q; cases q
    · rw [lookup_setS_ne hy] at q
      obtain ⟨u, p, r⟩ := i.vals y d q
      exact ⟨u, hh y u p, r.extBut X nf fun _ w _ => w⟩
  · rw [hok]
    by_cases hy : y = x
    · subst hy
      rw [lookup_setS_self] at q; cases q
      obtain ⟨p, o, _⟩ := i.owns y a ds l
      exact ⟨hh y _ p, o, vs, hl, rs.extBut X nf fun _ w _ => w⟩
    · rw [lookup_setS_ne hy] at q
      obtain ⟨p, o, ws, lw, rw'⟩ := i.owns y b es q
      have hne : b ≠ a := fun e => by
        subst e
        -- two names own the same list: not so
        have h1 : b ∉ owned (setS x (.val .none) σ) := notMem_setS_val i.once l
        exact h1 (owned_of_lookup (x := y) (ds := es) (by rw [lookup_setS_ne hy]; exact q))
      exact ⟨hh y _ p, o, ws, X.own hne lw, rw'.extBut X nf fun _ w _ => w⟩
  · rw [eo] at w
    by_cases hb : b = a
    · subst hb; exact ⟨vs, hl⟩
    · obtain ⟨ws, lw⟩ := i.there b w
      exact ⟨ws, X.own hb lw⟩
/-- x.append(e) -/
theorem Ex1.append {x : Str} {p1 p2 p3 pos : Pos} {e : Expr} {a : Addr} {ds : List D} {d : D} (l : σ.lookup x = some (.own a ds)) (h : Ev G n env σ e d) (hz : ds.length < sizeLine)
    (hd : (x == ("__debug__" : Str)) = false := by decide) (hc : (x == ("__classdict__" : Str)) = false := by decide)
    (hs : swapsWith (.Call (.Attribute (.Name x p1) "append" p2) [e] [] p3) none pos.line env = pure false := by rfl)
    (he1 : starEach [e] env = [(false, eval e env)] := by rfl)
    {pl : Sem Bool} (he : eval (.Call (.Attribute (.Name x p1) "append" p2) [e] [] p3) env = (do
      let ov ← eval (.Name x p1) env
      standAt p2.atName
      let (f, first) ← holding [ov] (getMethod ov "append" pl)
      callWith p3 f first (backTo p3 (starEach [e] env)) []) := by rfl) :
    Ex1 G n env σ (.Expr (.Call (.Attribute (.Name x p1) "append" p2) [e] [] p3) pos) fun fl σ' => fl = .next ∧ σ' = setS x (.own a (ds ++ [d])) σ := fun ok A s E r k i => by
  obtain ⟨q, o, vs, lv, rs⟩ := i.owns x a ds l
  refine wpAny_Expr (MethodCall_ (pl := pl) (wpAny_holds i.frame.kind q ?_ hd hc) he) (by unfold interactive; rw [i.frame.kind]; rfl) hs
  obtain ⟨m, hm⟩ := lv
  refine getMethod_list_append hm rfl rfl ?_
  refine callWith_callee (.builtin _) (by rw [he1]; rfl) (G := G) ?_ (by cases e <;> first | rfl | cases he1)
  refine PyProof.Rows.args_cons (wpAny_mono (h ok A s E r k i) (fun v s₁ p₁ => PyProof.Rows.args_nil ?_) fun _ _ x => x) he1
  have k₁ := p₁.1.ext.base k
  have i₁ := i.ext p₁.1.ext
  refine ⟨k₁, ?_⟩
  obtain ⟨m₁, hm₁⟩ := p₁.1.ext.own ⟨m, hm⟩
  refine append_at (hsz := by rw [List.size_toArray, rs.length]; omega) hm₁ fun h' hs' hl' => ?_
  have hl : OwnL h' a (vs ++ [v]) := ⟨m₁ + 1, by rw [hl']; simp⟩
  obtain ⟨i', m'⟩ := i₁.upd l hs' hl ((rs.stp p₁.1).append (.cons p₁.2 .nil))
  have mv := (p₁.1.mv (W := Wr env σ)).trans (m' s₁.toks) fun _ w => .inl w
  exact ⟨.next, _, ⟨rfl, rfl⟩, trivial, i', mv, mv.base k i.off, fun b w => .inl (owned_setS_same (es := ds ++ [d]) l ▸ w)⟩
theorem lookup_some_of_setS {x y : Str} {s t : Slot} (h : (setS x s σ).lookup y = some t) (n : y ≠ x) : σ.lookup y = some t := by rwa [lookup_setS_ne n] at h
/-- the own list is left as it is from here on: a value as any other -/
theorem Inv.freeze {base : Heap} {ok : Addr → Prop} {h : Heap} {x : Str} {a : Addr} {ds : List D} (i : Inv base ok env σ h) (l : σ.lookup x = some (.own a ds)) : Inv base ok env (setS x (.val (.list ds)) σ) h := by
  have up : ∀ b, okO ok σ b → okO ok (setS x (.val (.list ds)) σ) b := fun b q => ⟨q.1, fun z => q.2 (owned_setS_val z)⟩
  refine ⟨i.frame, fun b w => i.off b (w.imp id owned_setS_val), i.fresh, fun y d q => ?_, fun y b es q => ?_, fun b w => i.there b (owned_setS_val w), nodup_setS_val i.once⟩
  · by_cases hy : y = x
    · subst hy
      rw [lookup_setS_self] at q; cases q
      obtain ⟨p, o, vs, lv, rs⟩ := i.owns y a ds l
      exact ⟨_, p, .list ⟨o, notMem_setS_val i.once l⟩ lv.list (rs.weak up)⟩
    · obtain ⟨u, p, r⟩ := i.vals y d (lookup_some_of_setS q hy)
      exact ⟨u, p, r.weak up⟩
  · by_cases hy : y = x
    · subst hy; rw [lookup_setS_self] at q; cases q
    · obtain ⟨p, o, vs, lv, rs⟩ := i.owns y b es (lookup_some_of_setS q hy)
      exact ⟨p, o, vs, lv, rs.weak up⟩
theorem After.sub {ok : Addr → Prop} {s s' : Shared} {σ' : St} {Q : Fl → St → Prop} {f : Flow} (h : ∀ b ∈ owned σ', b ∈ owned σ) (a : After G env σ' ok s Q f s') : After G env σ ok s Q f s' := by
  obtain ⟨fl, σ₂, q, fi, i, m, k, o⟩ := a
  exact ⟨fl, σ₂, q, fi, i, m.weak fun b w => w.imp id (h b), k, fun b w => (o b w).imp (h b) id⟩
/-- forgetting -/
def Sub : St → St → Prop
  | [], _ => True
  | (x, s) :: r, σ => σ.lookup x = some s ∧ Sub r σ
theorem Sub.get {σ₀ : St} : ∀ {σ₁ : St}, Sub σ₀ σ₁ → ∀ {x : Str} {s : Slot}, σ₀.lookup x = some s → σ₁.lookup x = some s := by
  induction σ₀ with
  | nil => intro _ _ x s h; cases h
  | cons y r ih =>
    intro σ₁ hs x s h
    obtain ⟨y, t⟩ := y
    rw [List.lookup_cons] at h
    cases e : x == y with
    | true => rw [e] at h; cases h; rw [beq_iff_eq.mp e]; exact hs.1
    | false => rw [e] at h; exact ih hs.2 h
theorem Sub.owned {σ₀ σ₁ : St} (h : Sub σ₀ σ₁) : ∀ a ∈ owned σ₀, a ∈ owned σ₁ := by
  induction σ₀ with
  | nil => intro a w; cases w
  | cons y r ih =>
    obtain ⟨y, t⟩ := y
    intro a w
    rw [owned_cons] at w
    rcases List.mem_append.mp w with w | w
    · cases t with
      | val d => cases w
      | own b es => rw [List.mem_singleton.mp w]; exact owned_of_lookup h.1
    · exact ih h.2 a w
theorem Inv.sub {base : Heap} {ok : Addr → Prop} {h : Heap} {σ₀ : St} (i : Inv base ok env σ h) (hs : Sub σ₀ σ) (hn : (owned σ₀).Nodup) : Inv base ok env σ₀ h := by
  have up : ∀ b, okO ok σ b → okO ok σ₀ b := fun b q => ⟨q.1, fun z => q.2 (hs.owned b z)⟩
  exact ⟨i.frame, fun b w => i.off b (w.imp id (hs.owned b)), i.fresh, fun y d q => let ⟨u, p, r⟩ := i.vals y d (hs.get q); ⟨u, p, r.weak up⟩,
    fun y b es q => let ⟨p, o, vs, lv, rs⟩ := i.owns y b es (hs.get q); ⟨p, o, vs, lv, rs.weak up⟩, fun b w => i.there b (hs.owned b w), hn⟩
end
end Mine
end
section
open PySem PySem.W PyProof.Rows PySem.Calls
set_option maxRecDepth 100000
namespace Mine
section
variable {G : Gr} {n : Nat} {env : Env} {σ : St}
theorem RepAll.mv {base : Heap} {ok ok' : Addr → Prop} {s s' : Shared} {vs : List Value} {ds : List D} (i : Inv base ok env σ s.heap) (m : Mv base (Wr env σ) s s') (r : RepAll (okO ok σ) s.heap vs ds) (k : ∀ b, okO ok σ b → ok' b) : RepAll ok' s'.heap vs ds :=
  r.extBut m.ext (fun a q w z => z.elim (node_not_frame i.frame w) q.2) fun b q _ => k b q
/-- a target takes a value -/
def AssD (G : Gr) (n : Nat) (env : Env) (t : Expr) (d : D) (f : St → St) : Prop := ∀ σ ok A s E v, Room n A → G.base.StaysIn s.heap → Inv G.base ok env σ s.heap → Rep (okO ok σ) s.heap v d →
  wpAny G.M A (assign t env v) (fun _ s' => Inv G.base ok env (f σ) s'.heap ∧ Mv G.base (Wr env σ) s s' ∧ ∀ b ∈ owned (f σ), b ∈ owned σ) E s
theorem AssD.name {x : Str} {p : Pos} {d : D} (hx : Storable env x) : AssD G n env (.Name x p) d (setS x (.val d)) := fun σ ok A s E v r k i rp =>
  wpAny_assign_Name (wpAny_store (base := G.base) i.frame hx fun s' hv ho F m => ⟨i.set_val m F hv ho rp, m.weak fun _ w => .inl w, fun b w => owned_setS_val w⟩)
/-- a row of targets takes a row of values -/
def AssL (G : Gr) (n : Nat) (env : Env) (ts : List Expr) (ds : List D) (f : St → St) : Prop := ∀ σ ok A s E vs, Room n A → G.base.StaysIn s.heap → Inv G.base ok env σ s.heap → RepAll (okO ok σ) s.heap vs ds →
  wpAny G.M A (assignInOrder ((assignEach ts env).map (·.2)) vs) (fun _ s' => Inv G.base ok env (f σ) s'.heap ∧ Mv G.base (Wr env σ) s s' ∧ ∀ b ∈ owned (f σ), b ∈ owned σ) E s
theorem AssL.nil : AssL G n env [] [] id := fun σ ok A s E vs r k i rs => by
  cases rs
  exact wpAny_pure ⟨i, Stp.refl.mv, fun _ h => h⟩
theorem AssL.cons {t : Expr} {ts : List Expr} {d : D} {ds : List D} {f g : St → St} (h : AssD G n env t d f) (hs : AssL G n env ts ds g) (he : assignEach (t :: ts) env = (false, assign t env) :: assignEach ts env := by rfl) :
    AssL G n env (t :: ts) (d :: ds) (fun σ => g (f σ)) := fun σ ok A s E vs r k i rs => by
  cases rs with
  | cons a rest =>
    rw [he]
    refine wpAny_bind (wpAny_holding (wpAny_mono (h σ ok A s E _ r k i a) (fun _ s₁ p₁ => ?_) fun _ _ x => x))
    have up : ∀ b, okO ok σ b → okO ok (f σ) b := fun b q => ⟨q.1, fun z => q.2 (p₁.2.2 b z)⟩
    refine wpAny_mono (hs (f σ) ok A s₁ E _ r (p₁.2.1.base k i.off) p₁.1 (rest.mv i p₁.2.1 up)) (fun _ s₂ p₂ => ⟨p₂.1, p₁.2.1.trans p₂.2.1 fun b w => .inl (w.imp id (p₁.2.2 b)), fun b w => p₁.2.2 b (p₂.2.2 b w)⟩) fun _ _ x => x
theorem assignEach_length (ts : List Expr) : (assignEach ts env).length = ts.length := by
  induction ts with
  | nil => rfl
  | cons t r ih => cases t <;> simp [assignEach, ih]
theorem AssD.tuple {ts : List Expr} {k : Nat} {p : Pos} {ds : List D} {f : St → St} (h : AssL G n env ts ds f) (hn : ts.length = ds.length) (hstar : (assignEach ts env).findIdx? (·.1) = none := by rfl) : AssD G n env (.Tuple ts k p) (.tuple ds) f := fun σ ok A s E v r k i rp => by
  cases rp with
  | tuple o l rs =>
    refine assign_Tuple_tuple r.handled l (by rw [assignEach_length, hn, List.size_toArray, rs.length]) hstar fun h' he => ?_
    have st : Stp G.base s { s with heap := h' } := ⟨.of_stays fun b o e => he b o (Nat.ne_of_lt (Heap.lt_size e)) e, rfl, .refl⟩
    refine wpAny_mono (h σ ok A { s with heap := h' } E _ r (st.ext.base k) (i.ext st.ext) (rs.stp st)) (fun _ s₂ p₂ => ⟨p₂.1, (st.mv (W := Wr env σ)).trans p₂.2.1 fun _ w => .inl w, p₂.2.2⟩) fun _ _ x => x
/-- t = e, t a row of names -/
theorem Ex1.assignT {ts : List Expr} {k : Nat} {e : Expr} {p pos : Pos} {ds : List D} {f : St → St} (h : Ev G n env σ e (.tuple ds)) (ha : AssL G n env ts ds f) (hn : ts.length = ds.length := by rfl) (hstar : (assignEach ts env).findIdx? (·.1) = none := by rfl)
    (hs : swapsWithSole [.Tuple ts k p] e pos.line env = pure false := by rfl) (hw : swappedStores [.Tuple ts k p] e env = pure none := by rfl) :
    Ex1 G n env σ (.Assign [.Tuple ts k p] e pos) fun fl σ' => fl = .next ∧ σ' = f σ := fun ok A s E r k i =>
  Assign_Tuple (wpAny_mono (h ok A s E r k i) (fun v s₁ p₁ => wpAny_mono (AssD.tuple ha hn hstar σ ok A s₁ E v r (p₁.1.ext.base k) (i.ext p₁.1.ext) p₁.2) (fun _ s₂ p₂ =>
    have m := (p₁.1.mv (W := Wr env σ)).trans p₂.2.1 fun _ w => .inl w
    ⟨.next, _, ⟨rfl, rfl⟩, trivial, p₂.1, m, m.base k i.off, fun b w => .inl (p₂.2.2 b w)⟩) fun _ _ x => x) fun _ _ x => x) hs hw
/-- what an iterator does to the world: itself alone -/
structure MvI (base : Heap) (wr : Addr → Prop) (wg : Nat → Prop) (s s' : Shared) : Prop where
  ext : ExtBut base wr s.heap s'.heap
  dom : ∀ b, ¬ wr b → s'.heap.get? b = none → s.heap.get? b = none
  os : s'.os = s.os
  gkeep : ∀ (i : Nat) (x : GenState), ¬ wg i → s.gens[i]? = some x → s'.gens[i]? = some x
  gbare : (∀ x ∈ s.gens, x.bare = true) → ∀ x ∈ s'.gens, x.bare = true
theorem MvI.after {base : Heap} {W wr : Addr → Prop} {wg : Nat → Prop} {s s₁ s₂ : Shared} (m : Mv base W s s₁) (i : MvI base wr wg s₁ s₂) (h : ∀ a, wr a → s.heap.get? a = none) (hg : ∀ g, wg g → s.gens[g]? = none) : Mv base W s s₂ := by
  refine ⟨fun b o w e => ?_, fun b e => ?_, i.os.trans m.os, ⟨fun j x e => i.gkeep j x (fun z => by rw [hg j z] at e; cases e) (m.gens.keep j x e), fun q => i.gbare (m.gens.bare q)⟩⟩
  · obtain ⟨o', e', c', d', k'⟩ := m.ext b o w e
    obtain ⟨o'', e'', c'', d'', k''⟩ := i.ext b o' (fun z => by rw [h b z] at e; cases e) e'
    refine ⟨o'', e'', c''.trans c', d''.trans d', fun q => ?_⟩
    have := k' q; subst this
    exact k'' q
  · by_cases z : wr b
    · exact h b z
    · exact m.dom b (i.dom b z e)
/-- an iterator at work: the items that are to come -/
structure Itr (G : Gr) (A : Around) (ok : Addr → Prop) (target : Expr) (I : Addr) (ds : List D) (fp wr : Addr → Prop) (wg : Nat → Prop) (Sx : Nat → Shared → Prop) : Prop where
  frame : ∀ i s s' W, Sx i s → Mv G.base W s s' → (∀ a, fp a → ¬ W a) → (∀ a, ok a → IsNode s.heap a → ¬ W a) → Sx i s'
  node : ∀ i s a, Sx i s → wr a → ¬ IsNode s.heap a ∧ (s.heap.get? a).isSome = true
  item : ∀ i d s E ok', ds[i]? = some d → Sx i s → G.base.StaysIn s.heap → (∀ a, ok a → ok' a) → FreshOk ok' s.heap → wpAny G.M A (pyNext (.ref I)) (fun r s₁ => ∃ v, r = some v ∧
    wpAny G.M A (letOwnedTupleGo target (.ref I) v) (fun _ s' => Rep ok' s'.heap v d ∧ Sx (i + 1) s' ∧ MvI G.base wr wg s s') E s₁) E s
  done : ∀ s E, Sx ds.length s → G.base.StaysIn s.heap → wpAny G.M A (pyNext (.ref I)) (fun r s' => r = none ∧ MvI G.base wr wg s s') E s
  self : ∀ i s (Q : Value → Shared → Prop) E, Sx i s → Q (.ref I) s → wpAny G.M A (pyIter (.ref I)) Q E s
/-- the head of a for: the expression gives an iterator over ds -/
def EvI (G : Gr) (n : Nat) (env : Env) (σ : St) (e target : Expr) (ds : List D) : Prop := ∀ ok A s E, Room n A → G.base.StaysIn s.heap → Inv G.base ok env σ s.heap →
  wpAny G.M A (eval e env) (fun x s₁ => wpAny G.M A (pyIter x) (fun it s' => Stp G.base s s' ∧ ∃ I fp wr wg Sx, it = .ref I ∧
    Itr G A (fun a => okO ok σ a ∧ (s'.heap.get? a).isSome = true) target I ds fp wr wg Sx ∧ Sx 0 s' ∧ (∀ a, fp a → (s'.heap.get? a).isSome = true ∧ ¬ Wr env σ a) ∧ (∀ a, wr a → s.heap.get? a = none ∧ fp a) ∧ ∀ g, wg g → s.gens[g]? = none) E s₁) E s
/-- an iterator's steps leave the frame's state -/
theorem Inv.mvI {base : Heap} {ok : Addr → Prop} {wr : Addr → Prop} {wg : Nat → Prop} {s s' : Shared} (i : Inv base ok env σ s.heap) (m : MvI base wr wg s s') (hf : ∀ a, wr a → ¬ Wr env σ a) (hn : ∀ a, wr a → ¬ IsNode s.heap a)
    (hd : ∀ b, wr b → ok b) : Inv base ok env σ s'.heap := by
  have nf : ∀ {P : Addr → Prop} a, P a → IsNode s.heap a → ¬ wr a := fun a _ q z => hn a z q
  have hh : ∀ y v, Holds env s.heap y v → Holds env s'.heap y v := fun y v q => by
    rcases q with ⟨k, mm, hns, r⟩ | ⟨k, c, hc, r⟩
    · obtain ⟨o, es, ep, e, d, rr⟩ := hns
      obtain ⟨o', e', _, d', _⟩ := m.ext _ o (fun z => hf _ z (.inl (.inl rfl))) e
      exact .inl ⟨k, mm, ⟨o', es, ep, e', d'.trans d, rr⟩, r⟩
    · obtain ⟨o, e, d⟩ := r
      obtain ⟨o', e', _, d', _⟩ := m.ext _ o (fun z => hf _ z (.inl (.inr ⟨y, hc⟩))) e
      exact .inr ⟨k, c, hc, o', e', d'.trans d⟩
  refine ⟨⟨i.frame.kind, ?_, fun y c q => ?_, i.frame.apart, i.frame.away, i.frame.glob, i.frame.blt⟩, i.off, fun b e => ?_, fun y d q => ?_, fun y b es q => ?_, fun b w => ?_, i.once⟩
  · obtain ⟨mm, o, es, ep, e, d, rr⟩ := i.frame.ns
    obtain ⟨o', e', _, d', _⟩ := m.ext _ o (fun z => hf _ z (.inl (.inl rfl))) e
    exact ⟨mm, o', es, ep, e', d'.trans d, rr⟩
  · obtain ⟨v, o, e, d⟩ := i.frame.cells y c q
    obtain ⟨o', e', _, d', _⟩ := m.ext _ o (fun z => hf _ z (.inl (.inr ⟨y, q⟩))) e
    exact ⟨v, o', e', d'.trans d⟩
  · by_cases z : wr b
    · exact hd b z
    · exact i.fresh b (m.dom b z e)
  · obtain ⟨u, p, r⟩ := i.vals y d q
    exact ⟨u, hh y u p, r.extBut m.ext nf fun _ w _ => w⟩
  · obtain ⟨p, o, vs, lv, rs⟩ := i.owns y b es q
    exact ⟨hh y _ p, o, vs, m.ext.own (fun z => hn b z (.list lv.list)) lv, rs.extBut m.ext nf fun _ w _ => w⟩
  · obtain ⟨vs, lv⟩ := i.there b w
    exact ⟨vs, m.ext.own (fun z => hn b z (.list lv.list)) lv⟩
theorem Ex1.for {target iter : Expr} {body : List Stmt} {pos : Pos} {ds : List D} {f : D → St → St} {Q : Fl → St → Prop} (hi : EvI G n env σ iter target ds) (ht : ∀ d ∈ ds, AssD G n env target d (f d)) (J : Nat → St → Prop) (h0 : J 0 σ)
    (turn : ∀ i d σ₁, ds[i]? = some d → J i σ₁ → Ex G n env (f d σ₁) body fun fl σ₂ => match fl with
      | .next | .cont => J (i + 1) σ₂
      | .brk => Q .next σ₂
      | .ret r => Q (.ret r) σ₂)
    (done : ∀ σ₁, J ds.length σ₁ → Q .next σ₁) (hs : ∀ x, foldedSetIterable iter env x = pure x := by intro _; rfl) : Ex1 G n env σ (.For target iter body [] pos) Q := fun ok A s E r k i => by
  refine wpAny_For (wpAny_mono (hi ok A s E r k i) (fun x s₁ p₁ => wpAny_mono p₁ (fun it s₂ p₂ => ?_) fun _ _ x => x) fun _ _ x => x) hs
  obtain ⟨st, I, fp, wr, wg, Sx, rfl, W, hst, hfp, hwr, hwg⟩ := p₂
  have i₂ := i.ext st.ext
  refine codeAny_forLoop_any (fun m s' => ∃ j σ₁, j ≤ ds.length ∧ m = ds.length + 1 - j ∧ J j σ₁ ∧ Sx j s' ∧ Inv G.base ok env σ₁ s'.heap ∧ Mv G.base (Wr env σ) s s' ∧ G.base.StaysIn s'.heap ∧
    (∀ a ∈ owned σ₁, a ∈ owned σ ∨ s₂.heap.get? a = none) ∧ ∀ b, ¬ wr b → s'.heap.get? b = none → s₂.heap.get? b = none) ?_ (ds.length + 1) ⟨0, σ, Nat.zero_le _, by omega, h0, hst, i₂, st.mv, st.ext.base k, fun a w => .inl w, fun _ _ e => e⟩
  rintro m s' ⟨j, σ₁, hj, rfl, hJ, hSx, hinv, hmv, hk, how, hdom⟩
  have hfpw : ∀ a, fp a → ¬ Wr env σ₁ a := fun a q w => by
    rcases w with w | w
    · exact (hfp a q).2 (.inl w)
    · rcases how a w with w | w
      · exact (hfp a q).2 (.inr w)
      · have := (hfp a q).1; rw [w] at this; cases this
  have hwr2 : ∀ a, wr a → ¬ Wr env σ₁ a := fun a q => hfpw a (hwr a q).2
  have hok1 : ∀ a, (okO ok σ a ∧ (s₂.heap.get? a).isSome = true) → okO ok σ₁ a := fun a q => ⟨q.1.1, fun w => (how a w).elim q.1.2 fun z => by rw [z] at q; cases q.2⟩
  by_cases hlt : j < ds.length
  · have hd : ds[j]? = some ds[j] := List.getElem?_eq_getElem hlt
    refine wpAny_mono (W.item j ds[j] s' _ (okO ok σ₁) hd hSx hk hok1 hinv.freshO) (fun r' s₃ q => ?_) fun _ _ x => x
    obtain ⟨v, rfl, q⟩ := q
    refine wpAny_mono q (fun _ s₄ q => ?_) fun _ _ x => x
    obtain ⟨rp, hSx', mi⟩ := q
    have inv₄ := hinv.mvI mi hwr2 (fun a w => (W.node j s' a hSx w).1) fun b w => i.fresh b (hwr b w).1
    have mv₄ := MvI.after hmv mi (fun a w => (hwr a w).1) hwg
    have hk₄ := mv₄.base k i.off
    refine wpAny_mono (ht ds[j] (List.getElem_mem hlt) σ₁ ok A s₄ _ v r hk₄ inv₄ rp) (fun _ s₅ q => ?_) fun _ _ x => x
    obtain ⟨inv₅, mv₅, ow₅⟩ := q
    have mv₅' : Mv G.base (Wr env σ) s s₅ := mv₄.trans mv₅ fun a w => by
      rcases w with w | w
      · exact .inl (.inl w)
      · exact (how a w).imp .inr fun z => st.ext.none z
    have hk₅ := mv₅'.base k i.off
    have hSx₅ : Sx (j + 1) s₅ := W.frame (j + 1) s₄ s₅ _ hSx' mv₅ (fun a q => hfpw a q) fun a q nd w => by
      rcases w with w | w
      · exact node_not_frame inv₄.frame nd w
      · exact (hok1 a q).2 w
    refine wpAny_mono (turn j ds[j] σ₁ hd hJ ok A s₅ _ r hk₅ inv₅) (fun fl s₆ q => ?_) fun _ _ x => x
    obtain ⟨fl', σ₂, q, fi, inv₆, mv₆, hk₆, ow₆⟩ := q
    have mv₆' : Mv G.base (Wr env σ) s s₆ := mv₅'.trans mv₆ fun a w => by
      rcases w with w | w
      · exact .inl (.inl w)
      · exact (how a (ow₅ a w)).imp .inr fun z => st.ext.none z
    have dom₅ : ∀ b, ¬ wr b → s₅.heap.get? b = none → s₂.heap.get? b = none := fun b nz e => hdom b nz (mi.dom b nz (mv₅.dom b e))
    have how₆ : ∀ a ∈ owned σ₂, a ∈ owned σ ∨ s₂.heap.get? a = none := fun a w => by
      rcases ow₆ a w with w | w
      · exact how a (ow₅ a w)
      · exact .inr (dom₅ a (fun z => by have := (W.node _ _ a hSx₅ z).2; rw [w] at this; cases this) w)
    have how₆' : ∀ a ∈ owned σ₂, a ∈ owned σ ∨ s.heap.get? a = none := fun a w => (how₆ a w).imp id fun z => st.ext.none z
    have go : J (j + 1) σ₂ → ∃ m, m < ds.length + 1 - j ∧ ∃ j' σ₁, j' ≤ ds.length ∧ m = ds.length + 1 - j' ∧ J j' σ₁ ∧ Sx j' s₆ ∧ Inv G.base ok env σ₁ s₆.heap ∧ Mv G.base (Wr env σ) s s₆ ∧ G.base.StaysIn s₆.heap ∧
        (∀ a ∈ owned σ₁, a ∈ owned σ ∨ s₂.heap.get? a = none) ∧ ∀ b, ¬ wr b → s₆.heap.get? b = none → s₂.heap.get? b = none := fun hq =>
      ⟨ds.length + 1 - (j + 1), by omega, j + 1, σ₂, hlt, rfl, hq, W.frame (j + 1) s₅ s₆ _ hSx₅ mv₆ (fun a q w => by
          rcases w with w | w
          · exact (hfp a q).2 (.inl w)
          · exact hfpw a q (.inr (ow₅ a w))) (fun a q nd w => by
          rcases w with w | w
          · exact node_not_frame inv₅.frame nd w
          · exact (hok1 a q).2 (ow₅ a w)), inv₆, mv₆', hk₆, how₆, fun b nz e => dom₅ b nz (mv₆.dom b e)⟩
    cases fl <;> cases fl' <;> first | exact fi.elim | skip
    · exact go q
    · exact ⟨.next, σ₂, q, trivial, inv₆, mv₆', hk₆, how₆'⟩
    · exact go q
    · exact ⟨.ret _, σ₂, q, fi, inv₆, mv₆', hk₆, how₆'⟩
  · have hjl : j = ds.length := by omega
    subst hjl
    refine wpAny_mono (W.done s' _ hSx hk) (fun r' s₃ q => ?_) fun _ _ x => x
    obtain ⟨rfl, mi⟩ := q
    have inv₃ := hinv.mvI mi hwr2 (fun a w => (W.node _ s' a hSx w).1) fun b w => i.fresh b (hwr b w).1
    have mv₃ := MvI.after hmv mi (fun a w => (hwr a w).1) hwg
    exact wpAny_execs_nil ⟨.next, σ₁, done σ₁ hJ, trivial, inv₃, mv₃, mv₃.base k i.off, fun a w => (how a w).imp id fun z => st.ext.none z⟩
end
end Mine
end
section
open PySem PySem.W PyProof.Rows PySem.Calls
set_option maxRecDepth 100000
namespace Mine
section
variable {G : Gr} {n : Nat} {env : Env} {σ : St}
def plainIter (T : String) : Bool := !(["enumerate", "zip", "dict_itemiterator", "dict_reverseitemiterator", "odict_iterator", "itertools.zip_longest", "itertools.pairwise", "list", "tuple", "slice", "range"] : List String).contains T
theorem letOwned_plain {M : Model} {A : Around} {E : Value → Shared → Prop} {s : Shared} {target : Expr} {I : Addr} {v : Value} {o : Obj} {T : String} {Q : Unit → Shared → Prop} (ho : s.heap.get? I = some o) (hc : o.cls = .type T) (hT : plainIter T = true)
    (h : Q () s) : wpAny M A (letOwnedTupleGo target (.ref I) v) Q E s := by
  have hT' : (["enumerate", "zip", "dict_itemiterator", "dict_reverseitemiterator", "odict_iterator", "itertools.zip_longest", "itertools.pairwise"] : List String).contains T = false := by
    unfold plainIter at hT
    simp only [List.contains_cons, List.contains_nil, Bool.or_false, Bool.not_eq_true', Bool.or_eq_false_iff] at hT ⊢
    exact ⟨hT.1, hT.2.1, hT.2.2.1, hT.2.2.2.1, hT.2.2.2.2.1, hT.2.2.2.2.2.1, hT.2.2.2.2.2.2.1⟩
  have go : wpAny M A (match (Value.ref I, v) with
      | (.ref r, .ref a) => (do
        let o ← load r
        match o.cls, o.data with
        | .type n, .fields vs =>
          if ["enumerate", "zip", "dict_itemiterator", "dict_reverseitemiterator", "odict_iterator", "itertools.zip_longest", "itertools.pairwise"].contains n && vs[0]? == some (rawInt a) then
            rule "for.unpacks-the-owned-tuple"
            updateField r 0 .none
        | _, _ => pure () : Sem Unit)
      | _ => pure ()) Q E s := by
    cases v <;> first | exact wpAny_pure h | skip
    refine wpAny_bind (wpAny_load ho ?_)
    rw [hc]
    cases o.data <;> first | exact wpAny_pure h | skip
    simp only [hT', Bool.false_and, Bool.false_eq_true, if_false]
    exact wpAny_pure h
  cases target <;> first | exact wpAny_pure h | exact go
theorem MvI.of_keep {base : Heap} {I : Addr} {s : Shared} {h' : Heap} {tk : Nat} (h : ∀ b o, b ∉ [I] → s.heap.get? b = some o → h'.get? b = some o) : MvI base (· = I) (fun _ => False) s { s with heap := h', toks := tk } :=
  ⟨fun b o w e => ⟨o, h b o (by simpa using w) e, rfl, rfl, fun _ => rfl⟩, fun b w e => (by
    cases q : s.heap.get? b with
    | none => rfl
    | some o => (have := h b o (by simpa using w) q; rw [show h'.get? b = none from e] at this; cases this)), rfl, fun _ _ _ e => e, fun q => q⟩
theorem Itr.of_walks {A : Around} {ok : Addr → Prop} {target : Expr} {I : Addr} {ds ds' : List D} {vs : List Value} {fpl : List Addr} {m : Nat} {P : Nat → Value → Prop} {Stt : Nat → Heap → Prop} (W : Walks G.prog G.w A I fpl [I] m P Stt) (hm : m = ds.length)
    (hfp : ∀ b ∈ fpl, b = I ∨ (ok b ∧ ∀ i h, Stt i h → IsNode h b)) (hobj : ∀ i h, Stt i h → ∃ o T, h.get? I = some o ∧ o.cls = .type T ∧ isDict o.data = false ∧ plainIter T = true)
    (hP : ∀ i v d h, ds[i]? = some d → P i v → RepAll ok h vs ds' → Rep ok h v d) :
    Itr G A ok target I ds (· = I) (· = I) (fun _ => False) (fun i s => Stt i s.heap ∧ RepAll ok s.heap vs ds') where
  frame := fun i s s' W' hs mv hf hn => by
    refine ⟨W.frame i s.heap s'.heap hs.1 fun b hb o e => ?_, hs.2.extBut mv.ext hn fun _ q _ => q⟩
    rcases hfp b hb with rfl | ⟨q1, q2⟩
    · obtain ⟨o₁, T, e₁, _, d₁, _⟩ := hobj i _ hs.1
      rw [e] at e₁; cases e₁
      obtain ⟨o', e', _, _, k'⟩ := mv.ext b o (hf b rfl) e
      rw [e', k' (.inr d₁)]
    · have nd := q2 i _ hs.1
      obtain ⟨o', e', _, _, k'⟩ := mv.ext b o (hn b q1 nd) e
      rw [e', k' (.inr ?_)]
      cases nd with
      | list l => obtain ⟨o₂, e₂, _, k, d⟩ := l; rw [e] at e₂; cases e₂; rw [d]; rfl
      | tup l => obtain ⟨o₂, e₂, _, k, d⟩ := l; rw [e] at e₂; cases e₂; rw [d]; rfl
      | slice e₂ _ d => rw [e] at e₂; cases e₂; rw [d]; rfl
      | rng e₂ => unfold IsRange at e₂; rw [e] at e₂; cases e₂; rfl
  node := fun i s a hs ha => by
    subst ha
    obtain ⟨o, T, e, c, _, hT⟩ := hobj i _ hs.1
    refine ⟨fun nd => ?_, by rw [e]; rfl⟩
    cases nd with
    | list l => obtain ⟨o₂, e₂, c₂, _⟩ := l; rw [e] at e₂; cases e₂; rw [c] at c₂; cases c₂; cases hT
    | tup l => obtain ⟨o₂, e₂, c₂, _⟩ := l; rw [e] at e₂; cases e₂; rw [c] at c₂; cases c₂; cases hT
    | slice e₂ c₂ _ => rw [e] at e₂; cases e₂; rw [c] at c₂; cases c₂; cases hT
    | rng e₂ => unfold IsRange at e₂; rw [e] at e₂; cases e₂; cases c; cases hT
  item := fun i d s E ok' hd hs k hok hfr => by
    have hlt : i < m := by rw [hm]; exact (List.getElem?_eq_some_iff.mp hd).1
    refine W.item i s _ E hlt hs.1 fun v h' tk hp hst hk => ?_
    have mi : MvI G.base (· = I) (fun _ => False) s { s with heap := h', toks := tk } := .of_keep hk
    have rs : RepAll ok h' vs ds' := hs.2.extBut mi.ext (fun a q nd z => by
      obtain ⟨o, T, e, c, _, hT⟩ := hobj i _ hs.1
      subst z
      cases nd with
      | list l => obtain ⟨o₂, e₂, c₂, _⟩ := l; rw [e] at e₂; cases e₂; rw [c] at c₂; cases c₂; cases hT
      | tup l => obtain ⟨o₂, e₂, c₂, _⟩ := l; rw [e] at e₂; cases e₂; rw [c] at c₂; cases c₂; cases hT
      | slice e₂ c₂ _ => rw [e] at e₂; cases e₂; rw [c] at c₂; cases c₂; cases hT
      | rng e₂ => unfold IsRange at e₂; rw [e] at e₂; cases e₂; cases c; cases hT) fun _ q _ => q
    obtain ⟨o, T, e, c, _, hT⟩ := hobj _ _ hst
    exact ⟨v, rfl, letOwned_plain e c hT ⟨(hP i v d h' hd hp rs).weak hok, ⟨hst, rs⟩, mi⟩⟩
  done := fun s E hs k => W.done s _ E (hm ▸ hs.1) fun h' tk hk => ⟨rfl, .of_keep hk⟩
  self := fun i s Q E hs hq => W.self i s Q E hs.1 hq
/-- a value that may stand in a for's head -/
def IterD (G : Gr) (n : Nat) (d : D) (ds : List D) : Prop := ∀ ok A s E v target, Room n A → G.base.StaysIn s.heap → FreshOk ok s.heap → Rep ok s.heap v d →
  wpAny G.M A (pyIter v) (fun it s' => Stp G.base s s' ∧ ∃ I Sx, it = .ref I ∧ s.heap.get? I = none ∧ (s'.heap.get? I).isSome = true ∧
    Itr G A (fun a => ok a ∧ (s'.heap.get? a).isSome = true) target I ds (· = I) (· = I) (fun _ => False) Sx ∧ Sx 0 s') E s
theorem EvI.of_ev {e target : Expr} {d : D} {ds : List D} (h : Ev G n env σ e d) (hd : IterD G n d ds) : EvI G n env σ e target ds := fun ok A s E r k i =>
  wpAny_mono (h ok A s E r k i) (fun v s₁ p₁ => wpAny_mono (hd _ A s₁ E v target r (p₁.1.ext.base k) (i.ext p₁.1.ext).freshO p₁.2) (fun it s₂ p₂ => by
    obtain ⟨st, I, Sx, rfl, hI, hI', W, hs⟩ := p₂
    have h0 : s.heap.get? I = none := p₁.1.ext.none hI
    refine ⟨p₁.1.trans st, I, _, _, _, Sx, rfl, W, hs, fun a ha => ?_, fun a ha => ?_, fun g hg => hg.elim⟩
    · subst ha
      refine ⟨hI', ?_⟩
      rintro ((w | ⟨x, w⟩) | w)
      · obtain ⟨m, o, _, _, q, _⟩ := i.frame.ns; rw [← w, h0] at q; cases q
      · obtain ⟨_, o, q, _⟩ := i.frame.cells x a w; rw [h0] at q; cases q
      · obtain ⟨vs, l⟩ := i.there a w; have := l.some; rw [h0] at this; cases this
    · subst ha; exact ⟨h0, rfl⟩) fun _ _ x => x) fun _ _ x => x
theorem repAll_alloc {ok : Addr → Prop} {h : Heap} {vs : List Value} {ds : List D} (r : RepAll ok h vs ds) : RepAll (fun a => ok a ∧ (h.get? a).isSome = true) h vs ds := r.ext (base := h) .refl fun a q z => ⟨q, z⟩
theorem IterD.list {ds : List D} : IterD G n (.list ds) ds := fun ok A s E v target r k fr rp => by
  cases rp with
  | @list a vs _ o l rs =>
    have hne : a ≠ s.heap.objs.size := by obtain ⟨_, e, _⟩ := l; exact Nat.ne_of_lt (Heap.lt_size e)
    refine wpAny_pyIter_list l ?_
    have st : Stp G.base s { s with heap := s.heap.push { cls := .type "list_iterator", data := .fields #[.ref a, .int 0 0] } } := .push
    refine ⟨st, s.heap.objs.size, _, rfl, fresh_get, by rw [Heap.get?_push_size _ rfl]; rfl, Itr.of_walks (vs := vs) (ds' := ds) (Walks.list r.handled s.heap.objs.size a hne vs.toArray) (by rw [List.size_toArray, rs.length]) ?_ ?_ ?_,
      ⟨⟨_, Heap.get?_push_size _ rfl, rfl, rfl⟩, st.ext.list l⟩, ?_⟩
    · intro b hb
      rcases List.mem_cons.mp hb with rfl | hb
      · exact .inl rfl
      · rw [List.mem_singleton.mp hb]
        exact .inr ⟨⟨o, by obtain ⟨_, e, _⟩ := st.ext.list l; rw [e]; rfl⟩, fun i h q => .list q.2⟩
    · rintro i h ⟨⟨o', e, c, d⟩, _⟩
      exact ⟨o', _, e, c, by rw [d]; rfl, by decide⟩
    · intro i v d h hd hp rs'
      obtain ⟨u, e, rp⟩ := rs'.get hd
      have : vs[i]? = some v := by simpa using hp
      rw [this] at e; cases e; exact rp
    · exact repAll_alloc (rs.stp st)
theorem IterD.tuple {ds : List D} : IterD G n (.tuple ds) ds := fun ok A s E v target r k fr rp => by
  cases rp with
  | @tuple a vs _ o l rs =>
    have hne : a ≠ s.heap.objs.size := by obtain ⟨_, e, _⟩ := l; exact Nat.ne_of_lt (Heap.lt_size e)
    refine iter_tuple l ?_
    have st : Stp G.base s { s with heap := s.heap.push { cls := .type "tuple_iterator", data := .fields #[.ref a, .int 0 0] } } := .push
    refine ⟨st, s.heap.objs.size, _, rfl, fresh_get, by rw [Heap.get?_push_size _ rfl]; rfl, Itr.of_walks (vs := vs) (ds' := ds) (Walks.tuple r.handled s.heap.objs.size a hne vs.toArray) (by rw [List.size_toArray, rs.length]) ?_ ?_ ?_,
      ⟨⟨_, Heap.get?_push_size _ rfl, rfl, rfl⟩, st.ext.tup l⟩, ?_⟩
    · intro b hb
      rcases List.mem_cons.mp hb with rfl | hb
      · exact .inl rfl
      · rw [List.mem_singleton.mp hb]
        exact .inr ⟨⟨o, by obtain ⟨_, e, _⟩ := st.ext.tup l; rw [e]; rfl⟩, fun i h q => .tup q.2⟩
    · rintro i h ⟨⟨o', e, c, d⟩, _⟩
      exact ⟨o', _, e, c, by rw [d]; rfl, by decide⟩
    · intro i v d h hd hp rs'
      obtain ⟨u, e, rp⟩ := rs'.get hd
      have : vs[i]? = some v := by simpa using hp
      rw [this] at e; cases e; exact rp
    · exact repAll_alloc (rs.stp st)
/-- a text's signs -/
def signs (x : Str) : List D := x.cps.toList.map fun c => .str ⟨#[c]⟩
theorem IterD.str {x : Str} : IterD G n (.str x) (signs x) := fun ok A s E v target r k fr rp => by
  cases rp with
  | str _ t =>
    cases ha : x.cps.all (· < 128)
    · refine wpAny_pyIter_wide ha ?_
      refine ⟨.push, s.heap.objs.size, _, rfl, fresh_get, by rw [Heap.get?_push_size _ rfl]; rfl, Itr.of_walks (vs := []) (ds' := []) (Walks.strWide r.handled s.heap.objs.size x t) (by simp [signs]) (fun b hb => .inl (List.mem_singleton.mp hb)) ?_ ?_,
        ⟨⟨_, Heap.get?_push_size _ rfl, rfl, rfl⟩, .nil⟩⟩
      · rintro i h ⟨o', e, c, d⟩
        exact ⟨o', _, e, c, by rw [d]; rfl, by decide⟩
      · rintro i v d h hd ⟨c, u, hc, rfl⟩ _
        simp [signs] at hd
        obtain ⟨c', e, rfl⟩ := hd
        rw [hc] at e; cases e; exact .str _ _
    · refine wpAny_pyIter_ascii ha ?_
      refine ⟨.push, s.heap.objs.size, _, rfl, fresh_get, by rw [Heap.get?_push_size _ rfl]; rfl, Itr.of_walks (vs := []) (ds' := []) (Walks.strAscii r.handled s.heap.objs.size x t) (by simp [signs]) (fun b hb => .inl (List.mem_singleton.mp hb)) ?_ ?_,
        ⟨⟨_, Heap.get?_push_size _ rfl, rfl, rfl⟩, .nil⟩⟩
      · rintro i h ⟨o', e, c, d⟩
        exact ⟨o', _, e, c, by rw [d]; rfl, by decide⟩
      · rintro i v d h hd ⟨c, u, hc, rfl⟩ _
        simp [signs] at hd
        obtain ⟨c', e, rfl⟩ := hd
        rw [hc] at e; cases e; exact .str _ _
end
end Mine
end
section
open PySem PySem.W PyProof.Rows PySem.Calls
set_option maxRecDepth 100000
namespace Mine
/-- a def of the program by its place -/
def defAt (p : Program) (i : Nat) : DefRec := match p.main.body.drop i with
  | .FunctionDef name params body _ _ _ scope _ _ pos :: _ => ⟨name, params, body, scope, pos⟩
  | _ => ⟨⟨#[]⟩, ⟨[], [], none, [], [], none, []⟩, [], { kind := .function, names := [], isGenerator := false, isCoroutine := false, more := [] }, ⟨0, 0, 0, 0⟩⟩
/-- the frame of a def -/
structure FEnv (env : Env) (sc : Scope) : Prop where
  scope : env.scope = sc
  cells : ∀ x, sc.names.lookup x = some .cell → (env.cells.lookup x).isSome = true
section
variable {G : Gr} {n : Nat} {env : Env} {σ : St} {sc : Scope}
theorem FEnv.kind (F : FEnv env sc) {x : Str} {k : NameKind} (h : sc.names.lookup x = some k) : env.kindOf x = some k := by unfold Env.kindOf; rw [F.scope]; exact h
theorem FEnv.loc (F : FEnv env sc) {x : Str} (h : sc.names.lookup x = some .local) : Storable env x := .inl (F.kind h)
/-- the def stands in the ground -/
structure FnAt (G : Gr) (d : DefRec) (a : Addr) : Prop where
  name : G.mg d.name = some (.ref a)
  obj : ∃ o pm code doc, G.base.get? a = some o ∧ o.data = .func (docDef d.name d.params d.body d.scope pm code doc) ∧ G.base.CodeRec code d.name
theorem bindL_other (kd : Str → Option NameKind) {x : Str} : ∀ (bs : List (Str × Value)) (m : Str → Option Value), (∀ p ∈ bs, p.1 ≠ x) → bindL kd bs m x = m x
  | [], m, _ => rfl
  | (y, v) :: r, m, h => by
    unfold bindL
    rw [bindL_other kd r _ fun p hp => h p (.tail _ hp)]
    have : x ≠ y := fun e => h (y, v) (.head _) e.symm
    split <;> simp [this]
theorem bindC_other (kd : Str → Option NameKind) {x : Str} : ∀ (bs : List (Str × Value)) (m : Str → Option Value), (∀ p ∈ bs, p.1 ≠ x) → bindC kd bs m x = m x
  | [], m, _ => rfl
  | (y, v) :: r, m, h => by
    unfold bindC
    rw [bindC_other kd r _ fun p hp => h p (.tail _ hp)]
    have : x ≠ y := fun e => h (y, v) (.head _) e.symm
    split <;> simp [this]
theorem bindL_get (kd : Str → Option NameKind) {x : Str} {v : Value} (hk : kd x = some .local) : ∀ (bs : List (Str × Value)) (m : Str → Option Value), (bs.map (·.1)).Nodup → (x, v) ∈ bs → bindL kd bs m x = some v
  | (y, u) :: r, m, nd, h => by
    unfold bindL
    rw [List.map_cons, List.nodup_cons] at nd
    rcases List.mem_cons.mp h with e | h
    · cases e
      rw [bindL_other kd r _ fun p hp e => nd.1 (List.mem_map.mpr ⟨p, hp, e⟩), if_pos hk]; simp
    · exact bindL_get kd hk r _ nd.2 h
theorem bindC_get (kd : Str → Option NameKind) {x : Str} {v : Value} (hk : kd x = some .cell) : ∀ (bs : List (Str × Value)) (m : Str → Option Value), (bs.map (·.1)).Nodup → (x, v) ∈ bs → bindC kd bs m x = some v
  | (y, u) :: r, m, nd, h => by
    unfold bindC
    rw [List.map_cons, List.nodup_cons] at nd
    rcases List.mem_cons.mp h with e | h
    · cases e
      rw [bindC_other kd r _ fun p hp e => nd.1 (List.mem_map.mpr ⟨p, hp, e⟩), if_neg (by rw [hk]; decide)]; simp
    · exact bindC_get kd hk r _ nd.2 h
theorem repAll_zip {ok : Addr → Prop} {h : Heap} {x : Str} {d : D} : ∀ {xs : List Str} {vs : List Value} {ds : List D}, RepAll ok h vs ds → (xs.zip (ds.map Slot.val)).lookup x = some (.val d) → ∃ v, (x, v) ∈ xs.zip vs ∧ Rep ok h v d
  | [], _, _, _, q => by cases q
  | y :: ys, _, _, .nil, q => by cases q
  | y :: ys, _, _, .cons (v := v) a r, q => by
    rw [List.map_cons, List.zip_cons_cons, List.lookup_cons] at q
    cases e : x == y with
    | true => rw [e] at q; cases q; rw [beq_iff_eq.mp e]; exact ⟨v, List.mem_cons_self, a⟩
    | false =>
      rw [e] at q
      obtain ⟨u, m, rp⟩ := repAll_zip r q
      exact ⟨u, List.mem_cons_of_mem _ m, rp⟩
theorem owned_zip : ∀ (xs : List Str) (ds : List D), owned (xs.zip (ds.map Slot.val)) = []
  | [], _ => rfl
  | _ :: _, [] => rfl
  | x :: xs, d :: ds => by rw [List.map_cons, List.zip_cons_cons, owned_cons]; exact owned_zip xs ds
theorem lookup_zip_own {x : Str} {a : Addr} {es : List D} : ∀ (xs : List Str) (ds : List D), (xs.zip (ds.map Slot.val)).lookup x ≠ some (.own a es)
  | [], _ => nofun
  | _ :: _, [] => nofun
  | y :: ys, d :: ds => by
    rw [List.map_cons, List.zip_cons_cons, List.lookup_cons]
    cases x == y with
    | true => exact nofun
    | false => exact lookup_zip_own ys ds
/-- what a call of a def gives, by its body -/
theorem CallD.def {d : DefRec} {a : Addr} {ds : List D} {r : D} (F : FnAt G d a) (hds : d.params.args.length = ds.length)
    (hbind : ∀ pm code doc vs, vs.length = ds.length → bindArgs (docDef d.name d.params d.body d.scope pm code doc) ⟨vs, []⟩ = pure ((d.params.args.map (·.arg)).zip vs))
    (hkind : (d.params.args.all fun y => d.scope.names.lookup y.arg == some .local || d.scope.names.lookup y.arg == some .cell) = true) (hnd : (d.params.args.map (·.arg)).Nodup)
    (h : ∀ env, FEnv env d.scope → Ex G n env ((d.params.args.map (·.arg)).zip (ds.map Slot.val)) d.body fun fl _ => fl = .ret r)
    (hco : d.scope.isCoroutine = false) (hgen : d.scope.isGenerator = false) (hk : d.scope.kind = .function) : CallD G (n + 1) (.ref a) ds r := fun ok A s E vs rm k fr rs => by
  obtain ⟨o, pm, code, doc, ho, hd, hcd⟩ := F.obj
  refine wpAny_call (codeAny_call_cells (fd := docDef d.name d.params d.body d.scope pm code doc) (body := d.body) (vals := vs) (binds := (d.params.args.map (·.arg)).zip vs) (by have := rm.depth; omega) (k _ _ ho) hd (G.nolimit.keeps k) (hcd.keeps k) rfl (hbind _ _ _ _ rs.length) rfl ?_ (fun s₁ x => ?_) hco hgen hk)
  · intro p hp
    have hm : p.1 ∈ d.params.args.map (·.arg) := (List.of_mem_zip hp).1
    obtain ⟨y, hy, e⟩ := List.mem_map.mp hm
    have := List.all_eq_true.mp hkind y hy
    rw [e] at this
    exact kindsX (scope := d.scope) (binds := [(p.1, p.2)]) (by simpa using this) _ (p.1, p.2) (by simp)
  · generalize henv : callEnvC (docDef d.name d.params d.body d.scope pm code doc) s.heap.objs.size a = env at x ⊢
    have hsc : env.scope = d.scope := by rw [← henv]; rfl
    have hcs : env.cells = cellsFrom (s.heap.objs.size + 1) d.scope.names [] := by rw [← henv]; rfl
    have FE : FEnv env d.scope := ⟨hsc, fun y hy => by rw [hcs]; exact cellsFrom_some _ _ _ (.inl hy)⟩
    have hnoL : ∀ b, s.heap.objs.size ≤ b → s.heap.get? b = none := fun b hb => by
      cases q : s.heap.get? b with
      | none => rfl
      | some o => exact absurd (Nat.lt_of_lt_of_le (Heap.lt_size q) hb) (Nat.lt_irrefl _)
    have hfw : ∀ b, FrW env b → s.heap.get? b = none := fun b w => by
      rcases w with w | ⟨y, w⟩
      · exact hnoL b (w ▸ x.toInCall.fresh)
      · exact hnoL b (Nat.le_of_lt (Nat.lt_of_le_of_lt x.toInCall.fresh (x.above y b (mem_of_lookup w))))
    have hvl : ((d.params.args.map (·.arg)).zip vs).map (·.1) = d.params.args.map (·.arg) := by
      rw [List.map_fst_zip]; rw [List.length_map, hds, rs.length]; exact Nat.le_refl _
    have hnd' : (((d.params.args.map (·.arg)).zip vs).map (·.1)).Nodup := by rw [hvl]; exact hnd
    have st : Stp G.base s s₁ := by
      obtain ⟨h', tk, rfl, hkp⟩ := x.done
      exact .heap hkp
    have inv : Inv G.base ok env ((d.params.args.map (·.arg)).zip (ds.map Slot.val)) s₁.heap := by
      refine ⟨⟨by rw [hsc]; exact hk, ⟨_, x.toInCall.ns⟩, fun y c l => ⟨_, x.cell y c l⟩, x.apart, fun y c l => Nat.ne_of_gt (x.above y c (mem_of_lookup l)), by rw [← henv]; rfl, by rw [← henv]; rfl⟩,
        fun b w => ?_, fr.stp st.ext, fun y e l => ?_, fun y b es l => absurd l (lookup_zip_own _ _), fun b w => ?_, ?_⟩
      · rw [Wr, owned_zip] at w
        have := hfw b (w.elim id fun z => nomatch z)
        cases q : G.base.get? b with
        | none => rfl
        | some o => rw [k b o q] at this; cases this
      · obtain ⟨v, hm, rp⟩ := repAll_zip rs l
        refine ⟨v, ?_, (rp.stp st).weak fun b q => ⟨q, by rw [owned_zip]; simp⟩⟩
        have hy : y ∈ d.params.args.map (·.arg) := (List.of_mem_zip hm).1
        obtain ⟨z, hz, e⟩ := List.mem_map.mp hy
        have hkd := List.all_eq_true.mp hkind z hz
        rw [e] at hkd
        rcases Bool.or_eq_true_iff.mp hkd with q | q
        · have q' : env.kindOf y = some .local := FE.kind (by simpa using q)
          exact .inl ⟨q', _, x.toInCall.ns, bindL_get _ q' _ _ hnd' hm⟩
        · have q0 : d.scope.names.lookup y = some .cell := by simpa using q
          have q' : env.kindOf y = some .cell := FE.kind q0
          obtain ⟨c, hc⟩ := Option.isSome_iff_exists.mp (FE.cells y q0)
          refine .inr ⟨.inl q', c, hc, ?_⟩
          have := x.cell y c hc
          rw [bindC_get _ q' _ _ hnd' hm] at this
          exact this
      · rw [owned_zip] at w; cases w
      · rw [owned_zip]; exact List.nodup_nil
    refine wpAny_mono (h env FE ok _ s₁ (fun _ _ => False) rm.deeper (st.ext.base k) inv) (fun f s₂ q => ?_) fun _ _ x => x.elim
    obtain ⟨fl, σ', rfl, fi, _, mv, _, _⟩ := q
    cases f with
    | ret v =>
      refine ⟨?_, fi⟩
      have m2 : Mv G.base (FrW env) s s₂ := ((st.mv (W := FrW env))).trans mv fun b w => by rw [Wr, owned_zip] at w; exact .inl (w.elim id fun z => nomatch z)
      exact m2.stp hfw
    | _ => exact fi.elim
end
end Mine
end
section
open PySem PySem.W PyProof.Rows PySem.Calls
set_option maxRecDepth 100000
namespace Mine
section
variable {G : Gr} {n : Nat} {env : Env} {σ : St}
theorem BinD.add {x y : Int} : BinD G n .Add (.int x) (.int y) (.int (x + y)) := fun ok A s E va vb r k f ra rb => by
  cases ra; cases rb; exact P.add_int ⟨.tok, .int _ _⟩
theorem BinD.mod {x y : Int} (h : y ≠ 0) : BinD G n .Mod (.int x) (.int y) (.int (x.fmod y)) := fun ok A s E va vb r k f ra rb => by
  cases ra; cases rb; exact mod_int' h ⟨.tok, .int _ _⟩
theorem CmpD.eq_int {x y : Int} : CmpD G n .Eq (.int x) (.int y) (x == y) := fun ok A s E va vb r k f ra rb => by
  cases ra; cases rb; exact P.eq_int ⟨.refl, rfl⟩
theorem CmpD.ne_int {x y : Int} : CmpD G n .NotEq (.int x) (.int y) (x != y) := fun ok A s E va vb r k f ra rb => by
  cases ra; cases rb; exact P.ne_int ⟨.refl, rfl⟩
theorem CmpD.lt_int {x y : Int} : CmpD G n .Lt (.int x) (.int y) (decide (x < y)) := fun ok A s E va vb r k f ra rb => by
  cases ra; cases rb; exact P.lt_int ⟨.refl, rfl⟩
theorem TruD.bool {b : Bool} : TruD G n (.bool b) b := fun ok A s E v r k f rv => by
  cases rv; exact wpAny_truthy_bool ⟨.refl, rfl⟩
theorem Ev.neg {e : Expr} {p : Pos} {x : Int} (h : Ev G n env σ e (.int x)) : Ev G n env σ (.UnaryOp .USub e p) (.int (-x)) := fun ok A s E r k i =>
  UnaryOp_ (wpAny_mono (h ok A s E r k i) (fun v s₁ p₁ => by
    obtain ⟨st, rp⟩ := p₁; cases rp
    exact P.neg_int ⟨st.trans .tok, .int _ _⟩) fun _ _ x => x)
theorem cps_eq_iff {x y : Str} : (x.cps.toList == y.cps.toList) = decide (x = y) := by
  obtain ⟨⟨x⟩⟩ := x; obtain ⟨⟨y⟩⟩ := y
  by_cases h : x = y
  · subst h; simp
  · have : ¬ ((⟨⟨x⟩⟩ : Str) = ⟨⟨y⟩⟩) := fun e => h (by injection e with e; injection e)
    simp [h]
theorem CmpD.eq_str {x y : Str} : CmpD G n .Eq (.str x) (.str y) (decide (x = y)) := fun ok A s E va vb r k f ra rb => by
  cases ra; cases rb; exact P.eq_str (by rw [cps_eq_iff]; exact ⟨.refl, rfl⟩)
theorem BinD.add_str {x y : Str} (h : x.length + y.length ≤ sizeLine) : BinD G n .Add (.str x) (.str y) (.str (x ++ y)) := fun ok A s E va vb r k f ra rb => by
  cases ra; cases rb
  refine P.add_str ?_
  have hl : ∀ z : Str, (z.length == 0) = true → z = Str.empty := fun z hz => by
    obtain ⟨⟨l⟩⟩ := z
    cases l with
    | nil => rfl
    | cons a b => cases hz
  split
  · rename_i h0
    rw [hl x h0]
    exact ⟨.refl, by rw [show Str.empty ++ y = y from by obtain ⟨⟨l⟩⟩ := y; exact congrArg Str.mk (by simp [Str.empty])]; exact .str _ _⟩
  · split
    · rename_i h0
      rw [hl y h0]
      exact ⟨.refl, by rw [show x ++ Str.empty = x from by obtain ⟨⟨l⟩⟩ := x; exact congrArg Str.mk (by simp [Str.empty])]; exact .str _ _⟩
    · exact ⟨by rw [show (x ++ y).length = x.length + y.length from Array.size_append ..]; exact h, .tok, .str _ _⟩
theorem CallD.chr {i : Int} (h0 : 0 ≤ i) (h1 : i ≤ 1114111) : CallD G n (.builtin "chr") [.int i] (.str ⟨#[i.toNat]⟩) := fun ok A s E vs r k f rs => by
  cases rs with
  | cons a t => cases t; cases a; exact chr_of_range h0 h1 ⟨.tok, .str _ _⟩
theorem CallD.len_str {x : Str} (h : x.length < 2 ^ 62) : CallD G n (.builtin "len") [.str x] (.int x.length) := fun ok A s E vs r k f rs => by
  cases rs with
  | cons a t => cases t; cases a; exact P.len_str (by omega) ⟨.tok, .int _ _⟩
theorem CallD.len_list {ds : List D} (h : ds.length < 2 ^ 62) : CallD G n (.builtin "len") [.list ds] (.int ds.length) := fun ok A s E vs r k f rs => by
  cases rs with
  | cons a t =>
    cases t
    cases a with
    | list o l rs => exact PyProof.Rows.len_list l (by rw [List.size_toArray, rs.length]; omega) ⟨.tok, by rw [List.size_toArray, rs.length]; exact .int _ _⟩
theorem IdxD.list_neg {ds : List D} {i : Int} {d : D} (h0 : i < 0) (h1 : -(ds.length : Int) ≤ i) (h2 : -(2 ^ 62) ≤ i) (h : ds[(i + ds.length).toNat]? = some d) : IdxD G n (.list ds) (.int i) d := fun ok A s E vo vi r k f ro ri => by
  cases ri
  cases ro with
  | list o l rs =>
    obtain ⟨v, hv, rv⟩ := rs.get h
    exact wpAny_getItem_list_neg l h0 (by rw [List.size_toArray, rs.length]; exact h1) (by omega) (by rw [List.size_toArray, rs.length]; simpa using hv) ⟨.refl, rv⟩
theorem typeIs_list {ok : Addr → Prop} {s : Shared} {v : Value} {ds : List D} (r : Rep ok s.heap v (.list ds)) : s.TypeIs v "list" := by
  cases r with
  | list o l rs => exact l.typeIs
theorem typeIs_tuple {ok : Addr → Prop} {s : Shared} {v : Value} {ds : List D} (r : Rep ok s.heap v (.tuple ds)) : s.TypeIs v "tuple" := by
  cases r with
  | tuple o l rs => exact l.typeIs
theorem typeIs_str' {ok : Addr → Prop} {s : Shared} {v : Value} {x : Str} (r : Rep ok s.heap v (.str x)) : s.TypeIs v "str" := by
  cases r; exact typeIs_str _ _ _
theorem Ev.item {o i : Expr} {p : Pos} {ds : List D} {di d : D} (ho : Ev G n env σ o (.list ds)) (hi : Ev G n env σ i di) (hx : IdxD G n (.list ds) di d)
    (hs : ∀ a b, ∃ ops, subscripted i false a b = operate ops (getItem a b) := by intro a b; first | exact ⟨[a, b], rfl⟩ | exact ⟨[b, a], rfl⟩) : Ev G n env σ (.Subscript o i p) d :=
  .sub ho hi hx (fun _ _ _ r => typeIs_list r) slot_list_getitem.lookup hs
theorem Ev.itemT {o i : Expr} {p : Pos} {ds : List D} {di d : D} (ho : Ev G n env σ o (.tuple ds)) (hi : Ev G n env σ i di) (hx : IdxD G n (.tuple ds) di d)
    (hs : ∀ a b, ∃ ops, subscripted i false a b = operate ops (getItem a b) := by intro a b; first | exact ⟨[a, b], rfl⟩ | exact ⟨[b, a], rfl⟩) : Ev G n env σ (.Subscript o i p) d :=
  .sub ho hi hx (fun _ _ _ r => typeIs_tuple r) slot_tuple_getitem.lookup hs
theorem Ev.itemS {o i : Expr} {p : Pos} {x : Str} {di d : D} (ho : Ev G n env σ o (.str x)) (hi : Ev G n env σ i di) (hx : IdxD G n (.str x) di d)
    (hs : ∀ a b, ∃ ops, subscripted i false a b = operate ops (getItem a b) := by intro a b; first | exact ⟨[a, b], rfl⟩ | exact ⟨[b, a], rfl⟩) : Ev G n env σ (.Subscript o i p) d :=
  .sub ho hi hx (fun _ _ _ r => typeIs_str' r) F.slot_str_getitem.lookup hs
end
end Mine
end
section
open PySem PySem.W PyProof.Rows PySem.Calls
set_option maxRecDepth 100000
namespace Mine
mutual
def D.py : D → PyData
  | .none => .none
  | .bool b => .bool b
  | .int i => .int i
  | .str x => .str x
  | .tuple ds => .tuple (D.pys ds)
  | .list ds => .list (D.pys ds)
  | _ => .dict []
def D.pys : List D → List PyData
  | [] => []
  | d :: ds => D.py d :: D.pys ds
end
mutual
/-- none, ints, texts, and rows of such, to a depth -/
def D.data : Nat → D → Bool
  | _, .none => true
  | _, .bool _ => true
  | _, .int _ => true
  | _, .str x => PyData.strOk x
  | n + 1, .tuple ds => D.datas n ds
  | n + 1, .list ds => D.datas n ds
  | _, _ => false
def D.datas : Nat → List D → Bool
  | _, [] => true
  | n, d :: ds => D.data n d && D.datas n ds
end
mutual
theorem rep_reads {ok : Addr → Prop} {h : Heap} : ∀ {v : Value} {d : D} (n : Nat), Rep ok h v d → D.data n d = true → ∃ as, Reads h v d.py as
  | _, _, _, .none, _ => ⟨_, Reads.none⟩
  | _, _, _, .bool b, _ => ⟨_, Reads.bool b⟩
  | _, _, _, .int i t, _ => ⟨_, Reads.int i t⟩
  | _, _, _, .str x t, _ => ⟨_, Reads.str x t⟩
  | _, _, n, .bytes _ _, hk => by cases n <;> simp [D.data] at hk
  | _, _, n, .raw _, hk => by cases n <;> simp [D.data] at hk
  | _, _, n, .slice _ _ _ _ _ _ _, hk => by cases n <;> simp [D.data] at hk
  | _, _, n, .rng _ _, hk => by cases n <;> simp [D.data] at hk
  | _, _, 0, .tuple _ _ _, hk => by simp [D.data] at hk
  | _, _, 0, .list _ _ _, hk => by simp [D.data] at hk
  | _, _, n + 1, .tuple _ l r, hk => by
    obtain ⟨as, q⟩ := repAll_reads n r (by simpa [D.data] using hk)
    obtain ⟨o, e, c, k, d⟩ := l
    rw [D.py]
    exact ⟨as, Reads.tuple e c d (by simpa using q)⟩
  | _, _, n + 1, .list _ l r, hk => by
    obtain ⟨as, q⟩ := repAll_reads n r (by simpa [D.data] using hk)
    obtain ⟨o, e, c, k, d⟩ := l
    rw [D.py]
    exact ⟨_, Reads.list e c d (by simpa using q)⟩
theorem repAll_reads {ok : Addr → Prop} {h : Heap} : ∀ {vs : List Value} {ds : List D} (n : Nat), RepAll ok h vs ds → D.datas n ds = true → ∃ as, ReadsAll h vs (D.pys ds) as
  | _, _, _, .nil, _ => ⟨_, ReadsAll.nil⟩
  | _, _, n, .cons a r, hk => by
    rw [D.datas, Bool.and_eq_true] at hk
    obtain ⟨as, q⟩ := rep_reads n a hk.1
    obtain ⟨bs, p⟩ := repAll_reads n r hk.2
    rw [D.pys]
    exact ⟨_, ReadsAll.cons q p⟩
end
mutual
theorem data_lay : ∀ (n : Nat) (d : D), D.data n d = true → d.py.canLay0 = true ∧ d.py.depth ≤ n
  | _, .none, _ => by simp [D.py, PyData.canLay0, PyData.depth]
  | _, .bool _, _ => by simp [D.py, PyData.canLay0, PyData.depth]
  | _, .int _, _ => by simp [D.py, PyData.canLay0, PyData.depth]
  | n, .str x, h => by
    have : PyData.strOk x = true := by cases n <;> simpa [D.data] using h
    simp [D.py, PyData.canLay0, PyData.depth, this]
  | n, .bytes _, h => by cases n <;> simp [D.data] at h
  | n, .raw _, h => by cases n <;> simp [D.data] at h
  | n, .slice _ _ _, h => by cases n <;> simp [D.data] at h
  | n, .rng _ _, h => by cases n <;> simp [D.data] at h
  | 0, .tuple _, h => by simp [D.data] at h
  | 0, .list _, h => by simp [D.data] at h
  | n + 1, .tuple ds, h => by
    have q := datas_lay n ds (by simpa [D.data] using h)
    simp only [D.py, PyData.canLay0, PyData.depth, q.1, true_and]
    have := q.2; omega
  | n + 1, .list ds, h => by
    have q := datas_lay n ds (by simpa [D.data] using h)
    simp only [D.py, PyData.canLay0, PyData.depth, q.1, true_and]
    have := q.2; omega
theorem datas_lay : ∀ (n : Nat) (ds : List D), D.datas n ds = true → PyData.canLayAll0 (D.pys ds) = true ∧ PyData.depthAll (D.pys ds) ≤ n
  | _, [], _ => by simp [D.pys, PyData.canLayAll0, PyData.depthAll]
  | n, d :: ds, h => by
    rw [D.datas, Bool.and_eq_true] at h
    have q := data_lay n d h.1
    have p := datas_lay n ds h.2
    simp only [D.pys, PyData.canLayAll0, PyData.depthAll, q.1, p.1, Bool.and_self, true_and]
    have := q.2; have := p.2; omega
end
/-- Python's == -/
def D.eqb (d e : D) : Bool := PyData.eqv d.py e.py
theorem eqb_refl {d : D} {n : Nat} (h : d.data n = true) : d.eqb d = true := SeqAt.eqv_refl d.py (data_lay n d h).1
section
variable {G : Gr} {n : Nat} {env : Env} {σ : St}
theorem CmpD.eq {d e : D} {k : Nat} (hd : d.data k = true) (he : e.data k = true) (hk : k ≤ 400) : CmpD G n .Eq d e (d.eqb e) := fun ok A s E va vb r kb f ra rb => by
  obtain ⟨as, qa⟩ := rep_reads k ra hd
  obtain ⟨bs, qb⟩ := rep_reads k rb he
  have la := data_lay k d hd
  have lb := data_lay k e he
  exact SeqAt.compareEq_reads qa qb la.1 lb.1 (by have := r.units; have := la.2; have := lb.2; omega) ⟨.refl, rfl⟩
theorem CmpD.ne {d e : D} {k : Nat} (hd : d.data k = true) (he : e.data k = true) (hk : k ≤ 400) : CmpD G n .NotEq d e (!d.eqb e) := fun ok A s E va vb r kb f ra rb => by
  obtain ⟨as, qa⟩ := rep_reads k ra hd
  obtain ⟨bs, qb⟩ := rep_reads k rb he
  have la := data_lay k d hd
  have lb := data_lay k e he
  exact SeqAt.compareNe_reads qa qb la.1 lb.1 (by have := r.units; have := la.2; have := lb.2; omega) ⟨.refl, rfl⟩
def D.part : D → Option Int
  | .int i => some i
  | _ => Option.none
def D.isPart : D → Bool
  | .none | .int _ => true
  | _ => false
theorem rep_part {ok : Addr → Prop} {h : Heap} {v : Value} {d : D} (r : Rep ok h v d) (hp : d.isPart = true) : IsPart v d.part := by
  cases r <;> first | exact IsPart.none | exact IsPart.int _ _ | cases hp
/-- the items that a slice takes -/
def pickD {α : Type} (ds : List α) (lo hi st : Option Int) : List α :=
  (sliceRange (sliceBounds lo hi st ds.length).1 (sliceBounds lo hi st ds.length).2.1 (sliceBounds lo hi st ds.length).2.2).filterMap (ds[·]?)
theorem repAll_filterMap {ok : Addr → Prop} {h : Heap} {vs : List Value} {ds : List D} (r : RepAll ok h vs ds) : ∀ js : List Nat, RepAll ok h (js.filterMap (vs[·]?)) (js.filterMap (ds[·]?))
  | [] => .nil
  | j :: js => by
    have ih := repAll_filterMap r js
    rw [List.filterMap_cons, List.filterMap_cons]
    cases hj : ds[j]? with
    | none =>
      have : vs[j]? = none := by
        rw [List.getElem?_eq_none_iff] at hj ⊢; rw [r.length]; exact hj
      rw [this]; exact ih
    | some d =>
      obtain ⟨v, hv, rp⟩ := r.get hj
      rw [hv]; exact .cons rp ih
theorem pick_rep {ok : Addr → Prop} {h : Heap} {vs : List Value} {ds : List D} (r : RepAll ok h vs ds) (lo hi st : Option Int) : RepAll ok h (slicePick vs.toArray lo hi st).toList (pickD ds lo hi st) := by
  unfold slicePick pickD
  rw [List.size_toArray, r.length]
  simpa using repAll_filterMap r _
theorem IdxD.slice {ds : List D} {l u st : D} (hl : l.isPart = true) (hu : u.isPart = true) (hs : st.isPart = true) (h0 : st.part ≠ some 0) (hz : ds.length ≤ sizeLine) :
    IdxD G n (.list ds) (.slice l u st) (.list (pickD ds l.part u.part st.part)) := fun ok A s E vo vi r k f ro ri => by
  cases ri with
  | slice oi ei ci di r1 r2 r3 =>
    cases ro with
    | @list a ws _ o lst rs =>
      refine wpAny_getItem_list_slice lst ⟨_, ei, ci, di⟩ (rep_part r1 hl) (rep_part r2 hu) (rep_part r3 hs) h0 ?_ (by rw [List.size_toArray, rs.length]; exact hz)
      have sp : Stp G.base s { s with heap := s.heap.push { cls := .type "list", data := .seq (slicePick ws.toArray l.part u.part st.part) } } := .push
      exact ⟨sp, .list (f _ fresh_get) ⟨_, Heap.get?_push_size _ rfl, rfl, 0, by simp⟩ ((pick_rep rs _ _ _).stp sp)⟩
end
end Mine
end
section
open PySem PySem.W PyProof.Rows PySem.Calls
set_option maxRecDepth 100000
namespace Mine
section
variable {G : Gr} {n : Nat} {env : Env} {σ : St}
def sliceStr (x : Str) (lo hi st : Option Int) : Str := ⟨(pickD x.cps.toList lo hi st).toArray⟩
theorem pickD_length_le {α : Type} (ds : List α) (lo hi st : Option Int) : (pickD ds lo hi st).length ≤ ds.length := by
  unfold pickD
  refine Nat.le_trans (List.length_filterMap_le _ _) (sliceRange_length_le _ _ _ _ (fun hc => ?_) fun hc => ?_)
  · simp only [sliceBounds] at hc ⊢
    simp only [hc, if_true]
    constructor
    · cases lo with
      | none => simp
      | some i => dsimp only; omega
    · cases hi with
      | none => simp
      | some i => dsimp only; omega
  · simp only [sliceBounds] at hc ⊢
    simp only [hc, if_false]
    constructor
    · cases lo with
      | none => simp
      | some i => dsimp only; omega
    · cases hi with
      | none => simp
      | some i => dsimp only; omega
theorem filterMap_run {α : Type} (l : List α) (a k : Nat) : ((List.range k).map (a + ·)).filterMap (l[·]?) = (l.drop a).take k := by
  induction k with
  | zero => simp
  | succ k ih =>
    rw [List.range_succ, List.map_append, List.filterMap_append, ih, List.take_add_one]
    congr 1
    simp only [List.map_cons, List.map_nil, List.filterMap_cons, List.filterMap_nil, List.getElem?_drop]
    cases l[a + k]? <;> rfl
theorem pickD_plain {α : Type} (ds : List α) (lo hi : Option Int) :
    pickD ds lo hi none = (ds.drop (lo.elim 0 (clipAt ds.length))).take (hi.elim ds.length (clipAt ds.length) - lo.elim 0 (clipAt ds.length)) := by
  unfold pickD
  rw [sliceBounds_plain]
  simp only [sliceRange_one, filterMap_run]
theorem pickD_from {α : Type} (ds : List α) (a : Nat) : pickD ds (some (a : Int)) none none = ds.drop a := by
  rw [pickD_plain]
  simp only [Option.elim, clipAt_nat]
  rcases Nat.le_total a ds.length with h | h
  · rw [Nat.min_eq_left h, List.take_of_length_le (by simp)]
  · rw [Nat.min_eq_right h, List.drop_of_length_le (Nat.le_refl _), List.drop_of_length_le h]; simp
theorem pickD_upto {α : Type} (ds : List α) (b : Nat) : pickD ds none (some (b : Int)) none = ds.take b := by
  rw [pickD_plain]
  simp only [Option.elim, clipAt_nat, List.drop_zero, Nat.sub_zero]
  rcases Nat.le_total b ds.length with h | h
  · rw [Nat.min_eq_left h]
  · rw [Nat.min_eq_right h, List.take_of_length_le (Nat.le_refl _), List.take_of_length_le h]
theorem pickD_run {α : Type} (ds : List α) (a b : Nat) : pickD ds (some (a : Int)) (some (b : Int)) none = (ds.drop a).take (b - a) := by
  rw [pickD_plain]
  simp only [Option.elim, clipAt_nat]
  rcases Nat.le_total a ds.length with h | h
  · rw [Nat.min_eq_left h]
    rcases Nat.le_total b ds.length with h2 | h2
    · rw [Nat.min_eq_left h2]
    · rw [Nat.min_eq_right h2, List.take_of_length_le (by simp), List.take_of_length_le (by simp; omega)]
  · rw [Nat.min_eq_right h, List.drop_of_length_le (Nat.le_refl _), List.drop_of_length_le h]; simp
theorem IdxD.sliceS {x : Str} {l u st : D} (hl : l.isPart = true) (hu : u.isPart = true) (hs : st.isPart = true) (h0 : st.part ≠ some 0) (hz : x.length ≤ sizeLine) :
    IdxD G n (.str x) (.slice l u st) (.str (sliceStr x l.part u.part st.part)) := fun ok A s E vo vi r k f ro ri => by
  cases ri with
  | slice oi ei ci di r1 r2 r3 =>
    cases ro with
    | str _ t =>
      have conv : ∀ {v : Value} {d : D}, Rep ok s.heap v d → d.isPart = true → ∃ p : Option (Int × Tok), v = partValue p ∧ p.map (·.1) = d.part := fun {v d} r hp => by
        cases r <;> first | cases hp | skip
        · exact ⟨none, rfl, rfl⟩
        · exact ⟨some (_, _), rfl, rfl⟩
      obtain ⟨p1, e1, q1⟩ := conv r1 hl
      obtain ⟨p2, e2, q2⟩ := conv r2 hu
      obtain ⟨p3, e3, q3⟩ := conv r3 hs
      subst e1; subst e2; subst e3
      have h0' : ((p3.map (·.1)).getD 1 == 0) = false := by
        rw [q3]
        cases hp : st.part with
        | none => rfl
        | some c =>
          rw [hp] at h0
          exact beq_eq_false_iff_ne.mpr fun e => h0 (by rw [show c = 0 from e])
      refine wpAny_getItem_str_slice ⟨_, ei, ci, di⟩ h0' ?_
      have eidx : slicePicked x p1 p2 p3 = sliceRange (sliceBounds l.part u.part st.part x.cps.toList.length).1 (sliceBounds l.part u.part st.part x.cps.toList.length).2.1 (sliceBounds l.part u.part st.part x.cps.toList.length).2.2 := by
        unfold slicePicked
        rw [q1, q2, q3]
        rfl
      have epick : (slicePicked x p1 p2 p3).filterMap (x.cps[·]?) = pickD x.cps.toList l.part u.part st.part := by
        rw [eidx]; unfold pickD; simp
      have elen : ∀ i ∈ slicePicked x p1 p2 p3, i < x.length ∨ True := fun _ _ => .inr trivial
      unfold sliceMade
      split
      · rename_i hc
        -- the whole text: the slice is the text itself
        rw [Bool.and_eq_true] at hc
        have hstep : (p3.map (·.1)).getD 1 = 1 := by simpa using hc.1
        have hlen : (slicePicked x p1 p2 p3).length = x.length := by simpa using hc.2
        have hres : sliceStr x l.part u.part st.part = x := by
          unfold sliceStr
          have hb : sliceBounds l.part u.part st.part x.cps.toList.length = sliceBounds l.part u.part none x.cps.toList.length := by
            rw [q3] at hstep
            unfold sliceBounds
            rw [hstep]; rfl
          have hp : pickD x.cps.toList l.part u.part st.part = pickD x.cps.toList l.part u.part none := by unfold pickD; rw [hb]
          have hl2 : (sliceRange (sliceBounds l.part u.part none x.cps.toList.length).1 (sliceBounds l.part u.part none x.cps.toList.length).2.1 (sliceBounds l.part u.part none x.cps.toList.length).2.2).length = x.cps.toList.length := by
            rw [← hb, ← eidx, hlen]; simp [Str.length]
          rw [hp, pickD_plain]
          rw [sliceBounds_plain] at hl2
          simp only [sliceRange_one, List.length_map, List.length_range] at hl2
          have hhi : u.part.elim x.cps.toList.length (clipAt x.cps.toList.length) ≤ x.cps.toList.length := by
            cases u.part with
            | none => exact Nat.le_refl _
            | some i =>
              have := clipAt_cast x.cps.toList.length i
              simp only [Option.elim]
              omega
          have e1 : l.part.elim 0 (clipAt x.cps.toList.length) = 0 ∨ x.cps.toList.length = 0 := by omega
          rcases e1 with e1 | e1
          · rw [e1, List.drop_zero, List.take_of_length_le (by omega)]
          · have e2 : x.cps.toList = [] := List.eq_nil_of_length_eq_zero e1
            obtain ⟨⟨lst⟩⟩ := x
            have e3 : lst = [] := by simpa using e2
            subst e3; simp
        rw [hres]
        exact ⟨.refl, .str _ _⟩
      · refine ⟨?_, .tok, ?_⟩
        · rw [epick]
          show (pickD x.cps.toList l.part u.part st.part).toArray.size ≤ sizeLine
          rw [List.size_toArray]
          exact Nat.le_trans (pickD_length_le _ _ _ _) (by simpa [Str.length] using hz)
        · rw [epick]; exact .str _ _
theorem CallD.range {m : Int} : CallD G n (.type "range") [.int m] (.rng 0 m) := fun ok A s E vs r k f rs => by
  cases rs with
  | cons a rs =>
    cases rs; cases a
    exact call_range_1 ⟨.push, .rng (f _ fresh_get) (Heap.get?_push_size _ rfl)⟩
def rngList (lo hi : Int) : List D := (List.range (hi - lo).toNat).map fun i => .int (lo + (i : Nat))
theorem IterD.rng {lo hi : Int} (h1 : -(2 ^ 62) ≤ lo) (h2 : lo < 2 ^ 62) (h3 : -(2 ^ 62) ≤ hi) (h4 : hi < 2 ^ 62) : IterD G n (.rng lo hi) (rngList lo hi) := fun ok A s E v target r k f rp => by
  cases rp with
  | rng o hr =>
    refine wpAny_pyIter_range hr (small_one h1 h2 h3 h4) ?_
    have hsz : Builtin.Range.rangeSize lo hi 1 = (((hi - lo).toNat : Nat) : Int) := by rw [rangeSize_one]; split <;> omega
    refine ⟨.push, s.heap.objs.size, _, rfl, fresh_get, by rw [Heap.get?_push_size _ rfl]; rfl, Itr.of_walks (vs := []) (ds' := []) (Walks.range r.handled s.heap.objs.size lo 1 (hi - lo).toNat) (by simp [rngList]) (fun b hb => .inl (List.mem_singleton.mp hb)) ?_ ?_, ⟨?_, .nil⟩⟩
    · intro i h q
      exact ⟨_, "range_iterator", q, rfl, rfl, by decide⟩
    · rintro i v d h hd ⟨t, rfl⟩ _
      simp only [rngList, List.getElem?_map, Option.map_eq_some_iff] at hd
      obtain ⟨j, hj, rfl⟩ := hd
      have : j = i := by
        rw [List.getElem?_range] at hj
        · exact (Option.some.inj hj).symm
        · have := (List.getElem?_eq_some_iff.mp hj).1; simpa using this
      rw [this, Int.mul_one]; exact .int _ _
    · show IsRangeIter _ _ _ _ _
      rw [← hsz]
      have := Heap.get?_push_size s.heap (o := { cls := .type "range_iterator", data := .fields #[rawInt lo, rawInt (Builtin.Range.rangeSize lo hi 1), rawInt 1] }) rfl
      simpa [IsRangeIter] using this
end
end Mine
end
section
open PySem PySem.W PyProof.Rows PySem.Calls
set_option maxRecDepth 100000
namespace Mine
section
variable {G : Gr} {n : Nat} {env : Env} {σ : St} {sc : Scope}
theorem closureFor_is (scope : Scope) (h : ∀ p ∈ scope.names, p.2 = .free → (env.cells.lookup p.1).isSome = true) :
    ∃ cl, closureFor scope env = pure cl ∧ (∀ y c, (y, c) ∈ cl → env.cells.lookup y = some c ∧ (y, NameKind.free) ∈ scope.names) ∧ (∀ p ∈ scope.names, p.2 = .free → cl.lookup p.1 = env.cells.lookup p.1) ∧ cl.map (·.1) = ((scope.names.filter (·.2 == .free)).map (·.1)).reverse := by
  have go : ∀ (f : Str × NameKind → List (Str × Addr) → Sem (ForInStep (List (Str × Addr)))) (hf : ∀ y k cs, f (y, k) cs = if k == NameKind.free then (do let a ← cellOf env y; pure (ForInStep.yield ((y, a) :: cs))) else pure (ForInStep.yield cs))
      (names : List (Str × NameKind)) (acc : List (Str × Addr)), (∀ p ∈ names, p.2 = .free → (env.cells.lookup p.1).isSome = true) → (∀ y c, (y, c) ∈ acc → env.cells.lookup y = some c) →
      ∃ cl, (forIn names acc f) = pure cl ∧
        (∀ y c, (y, c) ∈ cl → (y, c) ∈ acc ∨ (env.cells.lookup y = some c ∧ (y, NameKind.free) ∈ names)) ∧ (∀ q ∈ acc, q ∈ cl) ∧ (∀ p ∈ names, p.2 = .free → ∃ c, (p.1, c) ∈ cl) ∧ cl.map (·.1) = ((names.filter (·.2 == .free)).map (·.1)).reverse ++ acc.map (·.1) := by
    intro f hf names
    induction names with
    | nil => intro acc _ _; exact ⟨acc, by rw [List.forIn_nil], fun y c m => .inl m, fun _ q => q, (fun p hp => nomatch hp), by simp⟩
    | cons x r ih =>
      intro acc hn ha
      obtain ⟨y, k⟩ := x
      rw [List.forIn_cons, hf]
      by_cases hk : k = .free
      · subst hk
        obtain ⟨c, hc⟩ := Option.isSome_iff_exists.mp (hn (y, .free) (.head _) rfl)
        obtain ⟨cl, e, h1, h2, h3, h4⟩ := ih ((y, c) :: acc) (fun p hp => hn p (.tail _ hp)) (fun z d m => by
          rcases List.mem_cons.mp m with q | q
          · cases q; exact hc
          · exact ha z d q)
        refine ⟨cl, ?_, fun z d m => ?_, fun q hq => h2 q (.tail _ hq), fun p hp hfr => ?_, by rw [h4]; simp⟩
        · have : cellOf env y = pure c := by unfold cellOf; rw [hc]
          simp only [beq_self_eq_true, if_true, this, pure_bind]
          exact e
        · rcases h1 z d m with q | q
          · rcases List.mem_cons.mp q with q | q
            · cases q; exact .inr ⟨hc, .head _⟩
            · exact .inl q
          · exact .inr ⟨q.1, .tail _ q.2⟩
        · rcases List.mem_cons.mp hp with q | q
          · subst q; exact ⟨c, h2 _ (.head _)⟩
          · exact h3 p q hfr
      · obtain ⟨cl, e, h1, h2, h3, h4⟩ := ih acc (fun p hp => hn p (.tail _ hp)) ha
        have hb : (k == NameKind.free) = false := by simpa using hk
        refine ⟨cl, ?_, fun z d m => (h1 z d m).imp id fun q => ⟨q.1, .tail _ q.2⟩, h2, fun p hp hfr => ?_, by rw [h4]; simp [hk]⟩
        · simp only [hb, Bool.false_eq_true, if_false, pure_bind]
          exact e
        · rcases List.mem_cons.mp hp with q | q
          · subst q; exact absurd hfr hk
          · exact h3 p q hfr
  have key : ∃ cl, closureFor scope env = pure cl ∧ (∀ y c, (y, c) ∈ cl → (y, c) ∈ ([] : List (Str × Addr)) ∨ (env.cells.lookup y = some c ∧ (y, NameKind.free) ∈ scope.names)) ∧ (∀ p ∈ scope.names, p.2 = .free → ∃ c, (p.1, c) ∈ cl) ∧ cl.map (·.1) = ((scope.names.filter (·.2 == .free)).map (·.1)).reverse := by
    obtain ⟨cl, e, h1, _, h3, h4⟩ := go (fun x cs => match x with
      | (name, kind) => if kind == NameKind.free then (do let a ← cellOf env name; pure (ForInStep.yield ((name, a) :: cs))) else pure (ForInStep.yield cs)) (fun y k cs => rfl) scope.names [] h (fun y c m => nomatch m)
    have e0 : closureFor scope env = (forIn scope.names ([] : List (Str × Addr)) (fun x cs => match x with
      | (name, kind) => if kind == NameKind.free then (do let a ← cellOf env name; pure (ForInStep.yield ((name, a) :: cs))) else pure (ForInStep.yield cs)) >>= fun cs => pure cs) := rfl
    exact ⟨cl, by rw [e0, e]; rfl, h1, h3, by simpa using h4⟩
  obtain ⟨cl, e, h1, h3, h4⟩ := key
  have h1' : ∀ y c, (y, c) ∈ cl → env.cells.lookup y = some c ∧ (y, NameKind.free) ∈ scope.names := fun y c m => (h1 y c m).elim (fun q => nomatch q) id
  refine ⟨cl, e, h1', fun p hp hf => ?_, h4⟩
  · obtain ⟨c, hc⟩ := h3 p hp hf
    have e1 := (h1' _ _ hc).1
    rw [e1]
    -- the first entry under that name says the same
    have : ∀ l : List (Str × Addr), (∀ y c, (y, c) ∈ l → env.cells.lookup y = some c) → (p.1, c) ∈ l → l.lookup p.1 = some c := by
      intro l
      induction l with
      | nil => intro _ m; cases m
      | cons q r ih =>
        intro hl m
        obtain ⟨y, d⟩ := q
        rw [List.lookup_cons]
        cases e3 : p.1 == y with
        | true =>
          have := hl y d (.head _)
          rw [← beq_iff_eq.mp e3, e1] at this; exact this.symm
        | false =>
          rcases List.mem_cons.mp m with q | q
          · cases q; simp at e3
          · exact ih (fun y c m => hl y c (.tail _ m)) q
    exact this cl (fun y c m => (h1' y c m).1) hc
/-- what the frame of a comprehension knows of its names -/
structure CEnv (cenv : Env) (scope : Scope) : Prop where
  kind : ∀ x k, scope.names.lookup x = some k → k ≠ .free → cenv.kindOf x = some k
theorem CEnv.loc {cenv : Env} {scope : Scope} (C : CEnv cenv scope) {x : Str} (h : scope.names.lookup x = some .local) : cenv.kindOf x = some .local := C.kind x _ h (by decide)
theorem CEnv.glob {cenv : Env} {scope : Scope} (C : CEnv cenv scope) {x : Str} (h : scope.names.lookup x = some .globalImplicit) : cenv.kindOf x = some .globalImplicit := C.kind x _ h (by decide)
theorem lookup_relabel {env : Env} : ∀ {names : List (Str × NameKind)} {x : Str} {k : NameKind}, names.lookup x = some k →
    (names.map fun (n, k) => if (k == NameKind.free && env.scope.kind == .function && env.kindOf n == some .cell) then (n, NameKind.cell) else (n, k)).lookup x = some k ∨
    (k = .free ∧ (names.map fun (n, k) => if (k == NameKind.free && env.scope.kind == .function && env.kindOf n == some .cell) then (n, NameKind.cell) else (n, k)).lookup x = some .cell)
  | [], _, _, h => by simp at h
  | (n, k') :: r, x, k, h => by
    have ih := @lookup_relabel env r x k
    rw [List.map_cons]
    cases hx : x == n with
    | true =>
      rw [List.lookup_cons, hx] at h
      cases h
      by_cases hc : (k' == NameKind.free && env.scope.kind == .function && env.kindOf n == some .cell) = true
      · refine .inr ⟨by simp only [Bool.and_eq_true] at hc; exact beq_iff_eq.mp hc.1.1, ?_⟩
        dsimp only; rw [if_pos hc, List.lookup_cons, hx]
      · refine .inl ?_
        dsimp only; rw [if_neg hc, List.lookup_cons, hx]
    | false =>
      rw [List.lookup_cons, hx] at h
      dsimp only at ih ⊢
      by_cases hc : (k' == NameKind.free && env.scope.kind == .function && env.kindOf n == some .cell) = true
      · rw [if_pos hc, List.lookup_cons, hx]; exact ih h
      · rw [if_neg hc, List.lookup_cons, hx]; exact ih h
/-- a comprehension's target takes a value: its own names alone -/
def AssC (G : Gr) (n : Nat) (cenv : Env) (t : Expr) (d : D) (f : St → St) : Prop := ∀ σ ok A s E v, Room n A → G.base.StaysIn s.heap → Inv G.base ok cenv σ s.heap → owned σ = [] → Rep (okO ok σ) s.heap v d →
  wpAny G.M A (assign t cenv v) (fun _ s' => Inv G.base ok cenv (f σ) s'.heap ∧ Mv G.base (· = cenv.locals) s s' ∧ owned (f σ) = []) E s
theorem owned_setS_nil {x : Str} {d : D} (h : owned σ = []) : owned (setS x (.val d) σ) = [] := List.eq_nil_iff_forall_not_mem.mpr fun a m => by have := owned_setS_val m; rw [h] at this; cases this
theorem wpAny_storeL {M : Model} {A : Around} {E : Value → Shared → Prop} {s : Shared} {base : Heap} {x : Str} {v : Value} {Q : Unit → Shared → Prop} (F : Frame env s.heap) (hk : env.kindOf x = some .local)
    (h : ∀ s', Holds env s'.heap x v → (∀ y u, y ≠ x → Holds env s.heap y u → Holds env s'.heap y u) → Frame env s'.heap → Mv base (· = env.locals) s s' → Q () s') : wpAny M A (storeName env x v) Q E s := by
  obtain ⟨m, hn⟩ := F.ns
  refine wpAny_storeName_local hk hn (fun h' hn' hs' => ?_) (by rw [F.kind]; rfl)
  have hL : ∃ o, h'.get? env.locals = some o := let ⟨o, _, _, q, _⟩ := hn'; ⟨o, q⟩
  have keep : ∀ b, b ≠ env.locals → h'.get? b = s.heap.get? b := fun b hb => hs'.2 b hb
  refine h _ (.inl ⟨hk, _, hn', by simp⟩) (fun y u hy q => ?_) ⟨F.kind, ⟨_, hn'⟩, fun z c l => ?_, F.apart, F.away, F.glob, F.blt⟩ ⟨fun b o w e => ⟨o, (keep b w).trans e, rfl, rfl, fun _ => rfl⟩, fun b e => ?_, rfl, .refl⟩
  · rcases q with ⟨k, m', n', r⟩ | ⟨k, c, l, r⟩
    · refine .inl ⟨k, _, hn', ?_⟩
      have : m' y = m y := by
        obtain ⟨o, es, ep, q1, q2, _, q3⟩ := n'
        obtain ⟨o₂, es₂, ep₂, p1, p2, _, p3⟩ := hn
        rw [q1] at p1; cases p1; rw [q2] at p2; cases p2
        rw [← q3, ← p3]
      simp [hy, ← this, r]
    · exact .inr ⟨k, c, l, r.sameBut hs' (F.away y c l)⟩
  · obtain ⟨u, q⟩ := F.cells z c l
    exact ⟨u, q.sameBut hs' (F.away z c l)⟩
  · by_cases hb : b = env.locals
    · obtain ⟨o, q⟩ := hL
      have e' : h'.get? b = none := e
      rw [hb, q] at e'; cases e'
    · rw [← keep b hb]; exact e
theorem AssC.name {cenv : Env} {x : Str} {p : Pos} {d : D} (hk : cenv.kindOf x = some .local) : AssC G n cenv (.Name x p) d (setS x (.val d)) := fun σ ok A s E v r k i ho rp =>
  wpAny_assign_Name (wpAny_storeL (base := G.base) i.frame hk fun s' hv hot F m => ⟨i.set_val (m.weak fun _ w => .inl w) F hv hot rp, m, owned_setS_nil ho⟩)
def AssCL (G : Gr) (n : Nat) (cenv : Env) (ts : List Expr) (ds : List D) (f : St → St) : Prop := ∀ σ ok A s E vs, Room n A → G.base.StaysIn s.heap → Inv G.base ok cenv σ s.heap → owned σ = [] → RepAll (okO ok σ) s.heap vs ds →
  wpAny G.M A (assignInOrder ((assignEach ts cenv).map (·.2)) vs) (fun _ s' => Inv G.base ok cenv (f σ) s'.heap ∧ Mv G.base (· = cenv.locals) s s' ∧ owned (f σ) = []) E s
theorem AssCL.nil {cenv : Env} : AssCL G n cenv [] [] id := fun σ ok A s E vs r k i ho rs => by
  cases rs
  exact wpAny_pure ⟨i, Stp.refl.mv, ho⟩
theorem AssCL.cons {cenv : Env} {t : Expr} {ts : List Expr} {d : D} {ds : List D} {f g : St → St} (h : AssC G n cenv t d f) (hs : AssCL G n cenv ts ds g) (he : assignEach (t :: ts) cenv = (false, assign t cenv) :: assignEach ts cenv := by rfl) :
    AssCL G n cenv (t :: ts) (d :: ds) (fun σ => g (f σ)) := fun σ ok A s E vs r k i ho rs => by
  cases rs with
  | cons a rest =>
    rw [he]
    refine wpAny_bind (wpAny_holding (wpAny_mono (h σ ok A s E _ r k i ho a) (fun _ s₁ p₁ => ?_) fun _ _ x => x))
    have up : ∀ b, okO ok σ b → okO ok (f σ) b := fun b q => ⟨q.1, by rw [p₁.2.2]; simp⟩
    have rest' : RepAll (okO ok (f σ)) s₁.heap _ _ := rest.extBut p₁.2.1.ext (fun a q w z => node_not_frame i.frame w (.inl z)) fun b q _ => up b q
    refine wpAny_mono (hs (f σ) ok A s₁ E _ r (p₁.2.1.base k fun b w => i.off b (.inl (.inl w))) p₁.1 p₁.2.2 rest') (fun _ s₂ p₂ => ⟨p₂.1, p₁.2.1.trans p₂.2.1 fun b w => .inl w, p₂.2.2⟩) fun _ _ x => x
theorem AssC.tuple {cenv : Env} {ts : List Expr} {k : Nat} {p : Pos} {ds : List D} {f : St → St} (h : AssCL G n cenv ts ds f) (hn : ts.length = ds.length) (hstar : (assignEach ts cenv).findIdx? (·.1) = none := by rfl) : AssC G n cenv (.Tuple ts k p) (.tuple ds) f := fun σ ok A s E v r k i ho rp => by
  cases rp with
  | tuple o l rs =>
    refine assign_Tuple_tuple r.handled l (by rw [assignEach_length, hn, List.size_toArray, rs.length]) hstar fun h' he => ?_
    have st : Stp G.base s { s with heap := h' } := ⟨.of_stays fun b o e => he b o (Nat.ne_of_lt (Heap.lt_size e)) e, rfl, .refl⟩
    refine wpAny_mono (h σ ok A { s with heap := h' } E _ r (st.ext.base k) (i.ext st.ext) ho (rs.stp st)) (fun _ s₂ p₂ => ⟨p₂.1, (st.mv (W := (· = cenv.locals))).trans p₂.2.1 fun _ w => .inl w, p₂.2.2⟩) fun _ _ x => x
/-- the names that a comprehension takes over -/
def Cap (env : Env) (σ : St) (scope : Scope) : St → Prop
  | [] => True
  | (x, .val d) :: r => (σ.lookup x = some (.val d) ∧ scope.names.lookup x = some .free ∧ env.kindOf x = some .cell) ∧ Cap env σ scope r
  | (_, .own _ _) :: _ => False
theorem Cap.get {scope : Scope} {x : Str} {d : D} : ∀ {σc : St}, Cap env σ scope σc → σc.lookup x = some (.val d) → σ.lookup x = some (.val d) ∧ scope.names.lookup x = some .free ∧ env.kindOf x = some .cell
  | (y, .val e) :: r, h, l => by
    rw [List.lookup_cons] at l
    cases q : x == y with
    | true => rw [q] at l; cases l; rw [beq_iff_eq.mp q]; exact h.1
    | false => rw [q] at l; exact Cap.get h.2 l
theorem Cap.owned {scope : Scope} : ∀ {σc : St}, Cap env σ scope σc → Mine.owned σc = []
  | [], _ => rfl
  | (y, .val e) :: r, h => Cap.owned (σc := r) h.2
  | (y, .own _ _) :: r, h => h.elim
theorem Cap.noOwn {scope : Scope} {x : Str} {a : Addr} {es : List D} : ∀ {σc : St}, Cap env σ scope σc → σc.lookup x ≠ some (.own a es)
  | [], _ => nofun
  | (y, .val e) :: r, h => by
    rw [List.lookup_cons]
    cases x == y with
    | true => exact nofun
    | false => exact Cap.noOwn h.2
  | (y, .own _ _) :: r, h => h.elim
end
end Mine
end
section
open PySem PySem.W PyProof.Rows PySem.Calls
set_option maxRecDepth 100000
namespace Mine
section
variable {G : Gr} {n : Nat} {env : Env} {σ : St} {sc : Scope}
/-- objects change that the frame's state does not lean on -/
theorem Inv.mvW {base : Heap} {ok : Addr → Prop} {W : Addr → Prop} {s s' : Shared} (i : Inv base ok env σ s.heap) (m : Mv base W s s') (hf : ∀ a, W a → ¬ Wr env σ a) (hn : ∀ a, W a → okO ok σ a → ¬ IsNode s.heap a) : Inv base ok env σ s'.heap := by
  have nf : ∀ a, okO ok σ a → IsNode s.heap a → ¬ W a := fun a o q z => hn a z o q
  have hh : ∀ y v, Holds env s.heap y v → Holds env s'.heap y v := fun y v q => by
    rcases q with ⟨k, mm, hns, r⟩ | ⟨k, c, hc, r⟩
    · obtain ⟨o, es, ep, e, d, rr⟩ := hns
      obtain ⟨o', e', _, d', _⟩ := m.ext _ o (fun z => hf _ z (.inl (.inl rfl))) e
      exact .inl ⟨k, mm, ⟨o', es, ep, e', d'.trans d, rr⟩, r⟩
    · obtain ⟨o, e, d⟩ := r
      obtain ⟨o', e', _, d', _⟩ := m.ext _ o (fun z => hf _ z (.inl (.inr ⟨y, hc⟩))) e
      exact .inr ⟨k, c, hc, o', e', d'.trans d⟩
  refine ⟨⟨i.frame.kind, ?_, fun y c q => ?_, i.frame.apart, i.frame.away, i.frame.glob, i.frame.blt⟩, i.off, fun b e => i.fresh b (m.dom b e), fun y d q => ?_, fun y b es q => ?_, fun b w => ?_, i.once⟩
  · obtain ⟨mm, o, es, ep, e, d, rr⟩ := i.frame.ns
    obtain ⟨o', e', _, d', _⟩ := m.ext _ o (fun z => hf _ z (.inl (.inl rfl))) e
    exact ⟨mm, o', es, ep, e', d'.trans d, rr⟩
  · obtain ⟨v, o, e, d⟩ := i.frame.cells y c q
    obtain ⟨o', e', _, d', _⟩ := m.ext _ o (fun z => hf _ z (.inl (.inr ⟨y, q⟩))) e
    exact ⟨v, o', e', d'.trans d⟩
  · obtain ⟨u, p, r⟩ := i.vals y d q
    exact ⟨u, hh y u p, r.extBut m.ext nf fun _ w _ => w⟩
  · obtain ⟨p, o, vs, lv, rs⟩ := i.owns y b es q
    exact ⟨hh y _ p, o, vs, m.ext.own (fun z => hf b z (.inr (owned_of_lookup q))) lv, rs.extBut m.ext nf fun _ w _ => w⟩
  · obtain ⟨vs, lv⟩ := i.there b w
    exact ⟨vs, m.ext.own (fun z => hf b z (.inr w)) lv⟩
/-- the tests of a comprehension -/
def Tests (G : Gr) (n : Nat) (cenv : Env) (σ : St) (ifs : List Expr) (b : Bool) : Prop := ∀ ok A s E, Room n A → G.base.StaysIn s.heap → Inv G.base ok cenv σ s.heap →
  wpAny G.M A (forIn ifs true fun c r => if r = true then do let ok ← isTrue c cenv (eval c cenv); pure (ForInStep.yield ok) else pure (ForInStep.yield r)) (fun r s' => Stp G.base s s' ∧ r = b) E s
theorem Tests.nil {cenv : Env} : Tests G n cenv σ [] true := fun _ _ _ _ _ _ _ => wpAny_tests_nil ⟨.refl, rfl⟩
theorem compLoop_any {prog : Program} {w : World} {A : Around} {R : Result → Shared → Prop} {s : Shared} {elt target iter : Expr} {ifs : List Expr} {scope : Scope} {pos : Pos} {it acc : Value} {env : Env} (I : Nat → Shared → Prop)
    (turn : ∀ n s, I n s → ∀ E, (∀ e s', False → E e s') → wpAny (model prog w) A (pyNext it) (fun r s₁ => match r with
      | none => R (.ok .next) s₁
      | some v => wpAny (model prog w) A (letOwnedTupleGo target it v) (fun _ s₁' => wpAny (model prog w) A (assign target env v) (fun _ s₂ =>
          wpAny (model prog w) A (forIn ifs true fun c r => if r = true then do let ok ← isTrue c env (eval c env); pure (ForInStep.yield ok) else pure (ForInStep.yield r)) (fun ok s₃ =>
            if ok = true then wpAny (model prog w) A (eval elt env) (fun x s₄ =>
              wpAny (model prog w) A (call (.builtin "list.append") [acc, x]) (fun _ s₅ => ∃ m, m < n ∧ I m s₅) E s₄) E s₃
            else ∃ m, m < n ∧ I m s₃) E s₂) E s₁') E s₁) E s)
    (n : Nat) (h : I n s) : codeAny (model prog w) A (.compLoop (.ListComp elt [⟨target, iter, ifs, 0⟩] scope pos) 0 it acc env) R s := by
  refine codeAny_loop rfl I (fun n s hI => ?_) n h
  show wpAny _ A ((compTurn (.ListComp elt [⟨target, iter, ifs, 0⟩] scope pos) 0 it acc env).onRaise (fun x => do noteFrame x env; theTreesLotGoes x)) _ _ s
  refine wpAny_noted ?_
  rw [compTurn_list]
  refine wpAny_bind (wpAny_standAt (wpAny_bind (wpAny_mono (turn n s hI _ (fun _ _ f => f.elim)) (fun r s₁ h₁ => ?_) fun _ _ h' => h')))
  cases r with
  | none => exact wpAny_pure h₁
  | some v =>
    refine wpAny_bind (wpAny_mono h₁ (fun _ s₁' h₁' => ?_) fun _ _ h' => h')
    refine wpAny_bind (wpAny_mono h₁' (fun _ s₂ h₂ => wpAny_bind (wpAny_mono h₂ (fun ok s₃ h₃ => ?_) fun _ _ h' => h')) fun _ _ h' => h')
    cases ok with
    | false => exact wpAny_pure ⟨rfl, h₃⟩
    | true =>
      exact wpAny_bind (wpAny_bind (wpAny_mono h₃ (fun x s₄ h₄ => wpAny_bind (wpAny_mono h₄ (fun _ s₅ h₅ => wpAny_pure (wpAny_pure ⟨rfl, h₅⟩)) fun _ _ h' => h')) fun _ _ h' => h'))
theorem comp_core {elt target iter : Expr} {ifs : List Expr} {scope : Scope} {pos ipos : Pos} {ds : List D} {σc : St} {f : D → St → St} {keep : D → Bool} {res : D → D} {use : Option (Value → Sem Unit)} {Q : Value → Shared → Prop}
    (FE : FEnv env sc) (hfree : (scope.names.all fun p => p.2 != .free || sc.names.lookup p.1 == some .cell) = true) (hnd : (scope.names.map (·.1)).Nodup) (hcell : ∀ y ∈ scope.names, y.2 ≠ .cell) (hkind : scope.kind = .function)
    (hcap : Cap env σ scope σc) (hi : EvI G n env σ iter target ds) (hsub : ∀ d ∈ ds, Sub σc (f d σc))
    (hturn : ∀ cenv, CEnv cenv scope → ∀ d ∈ ds, AssC G n cenv target d (f d) ∧ Tests G n cenv (f d σc) ifs (keep d) ∧ (keep d = true → Ev G n cenv (f d σc) elt (res d)))
    (hz : ds.length < sizeLine) (hs : ∀ x, foldedSetIterable iter env x = pure x)
    {ok : Addr → Prop} {A : Around} {s : Shared} {E : Value → Shared → Prop} (r : Room n A) (k : G.base.StaysIn s.heap) (i : Inv G.base ok env σ s.heap)
    (K : ∀ L C ws s' m, Stp G.base s s' → s.heap.get? L = none → s.heap.get? C = none → L ≠ C → OwnL s'.heap L ws → RepAll (fun b => okO ok σ b ∧ b ≠ L) s'.heap ws ((ds.filter keep).map res) → s'.heap.Ns C m → compPost G.M A E use Q (.ref L) C (.ok .next) s') :
    wpAny G.M A (comprehension (.ListComp elt [⟨target, iter, ifs, 0⟩] scope pos) scope env ipos (newList []) false (eval iter env) use) Q E s := by
  have hcells : ∀ p ∈ scope.names, p.2 = .free → (env.cells.lookup p.1).isSome = true := fun p hp hf => by
    have := List.all_eq_true.mp hfree p hp
    rw [hf] at this
    exact FE.cells p.1 (by simpa using this)
  obtain ⟨cl, hclos, hcl1, hcl2, hcl3⟩ := closureFor_is (env := env) scope hcells
  have hnames : ∀ x ∈ scope.names, x.2 = .local → scope.names.lookup x.1 = some .local := fun x hx hl => by
    have : ∀ l : List (Str × NameKind), (l.map (·.1)).Nodup → x ∈ l → l.lookup x.1 = some x.2 := by
      intro l
      induction l with
      | nil => intro _ m; cases m
      | cons y t ih =>
        intro nd m
        obtain ⟨y, ky⟩ := y
        rw [List.map_cons, List.nodup_cons] at nd
        rw [List.lookup_cons]
        rcases List.mem_cons.mp m with q | q
        · subst q; simp
        · cases e : x.1 == y with
          | true => exact absurd (List.mem_map.mpr ⟨x, q, beq_iff_eq.mp e⟩) nd.1
          | false => exact ih nd.2 q
    rw [this scope.names hnd hx, hl]
  refine wpAny_comprehension_free (cl := cl) (e := .ListComp elt [⟨target, iter, ifs, 0⟩] scope pos) rfl hs hclos hkind hnames (wpAny_mono (hi ok A s E r k i) (fun x s₁ p₁ => wpAny_mono p₁ (fun it s₂ p₂ => ?_) fun _ _ x => x) fun _ _ x => x)
  obtain ⟨st, I, fp, wr, wg, Sx, rfl, W, hst, hfp, hwr, hwg⟩ := p₂
  have i₂ := i.ext st.ext
  have k₂ := st.ext.base k
  refine wpAny_newObj_type (wpAny_newFunctionEnv hcell (by intro y hy; simp at hy) (fun h₁ hns₁ hsb₁ => ?_) hkind)
  dsimp only at hns₁ hsb₁ ⊢
  -- the new list and the new namespace
  generalize hH : s₂.heap.push { cls := .type "list", dict := none, data := .seq ([] : List Value).toArray } = H at hns₁ hsb₁ ⊢
  generalize hL : s₂.heap.objs.size = L
  generalize hC : H.objs.size = C at hns₁ hsb₁
  have hCsz : C = L + 1 := by rw [← hC, ← hH, Heap.size_push, hL]
  have hLn : s₂.heap.get? L = none := by rw [← hL]; exact fresh_get
  have hCn : s₂.heap.get? C = none := by
    cases q : s₂.heap.get? C with
    | none => rfl
    | some o => have := Heap.lt_size q; rw [hL, hCsz] at this; exact absurd this (Nat.not_lt.mpr (Nat.le_succ L))
  have hLC : L ≠ C := by rw [hCsz]; exact Nat.ne_of_lt (Nat.lt_succ_self _)
  have old : ∀ b o, s₂.heap.get? b = some o → h₁.get? b = some o := fun b o e => hsb₁.extBut b o (fun q => by rw [q, hCn] at e; cases e) (Heap.get?_push_of_some _ (hH ▸ Heap.get?_push_of_some _ e))
  have hLo : OwnL h₁ L [] := ⟨0, hsb₁.extBut _ _ hLC (Heap.get?_push_of_some _ (hH ▸ hL ▸ Heap.get?_push_size _ rfl))⟩
  generalize hs3 : ({ s₂ with heap := h₁, toks := s₂.toks + ([] : List (Str × Value)).length } : Shared) = s₃
  have hs3' : s₃ = { s₂ with heap := h₁, toks := s₂.toks + ([] : List (Str × Value)).length } := hs3.symm
  have st₃ : Stp G.base s₂ s₃ := by rw [hs3']; exact .heap old
  have hh3 : s₃.heap = h₁ := by rw [hs3']
  show codeAny G.M A (.compStart (.ListComp elt [⟨target, iter, ifs, 0⟩] scope pos) 0 (.ref I) (.ref L) (compEnvC scope cl C env)) (compPost G.M A E use Q (.ref L) C) s₃
  generalize hce' : compEnvC scope cl C env = cenv
  replace hce' := hce'.symm
  have hcloc : cenv.locals = C := by rw [hce']; rfl
  have hccells : cenv.cells = cl := by rw [hce']; rfl
  have CE : CEnv cenv scope := ⟨fun x kd hx hne => by
    rw [hce']
    rcases lookup_relabel (env := env) hx with q | q
    · exact q
    · exact absurd q.1 hne⟩
  have hfrc : ∀ a, FrW cenv a → a = C ∨ FrW env a := fun a w => by
    rcases w with w | ⟨x, w⟩
    · exact .inl (w.trans hcloc)
    · rw [hccells] at w
      exact .inr (.inr ⟨x, (hcl1 _ _ (mem_of_lookup w)).1⟩)
  have hokin : FreshOk (fun b => okO ok σ b ∧ b ≠ L) s₃.heap := fun b e => ⟨(i₂.ext st₃.ext).freshO b e, fun q => by
    have := hLo.some; rw [← hh3, ← q, e] at this; cases this⟩
  have hbase : ∀ a, s₂.heap.get? a = none → G.base.get? a = none := fun a e => by
    cases q : G.base.get? a with
    | none => rfl
    | some o => rw [k₂ a o q] at e; cases e
  have oc := hcap.owned
  have hwrc : ∀ a, Wr cenv σc a → a = C ∨ FrW env a := fun a w => by
    rcases w with w | w
    · exact hfrc a w
    · rw [oc] at w; cases w
  have inv₃ : Inv G.base (fun b => okO ok σ b ∧ b ≠ L) cenv σc s₃.heap := by
    refine ⟨⟨by rw [hce']; exact hkind, ⟨_, by rw [hcloc, hh3]; exact hns₁⟩, fun x c l => ?_, ?_, fun x c l => ?_, by rw [hce']; exact i.frame.glob, by rw [hce']; exact i.frame.blt⟩, fun a w => ?_, hokin, fun x d l => ?_, fun x a es l => absurd l hcap.noOwn, fun a w => (by rw [oc] at w; cases w), (by rw [oc]; exact List.nodup_nil)⟩
    · rw [hccells] at l
      obtain ⟨v, q⟩ := i₂.frame.cells x c (hcl1 _ _ (mem_of_lookup l)).1
      exact ⟨v, st₃.ext.cell q⟩
    · rw [hccells]
      -- different names, different cells
      have : ∀ l : List (Str × Addr), (∀ y c, (y, c) ∈ l → env.cells.lookup y = some c) → (l.map (·.1)).Nodup → l.Pairwise fun x y => x.2 ≠ y.2 := by
        intro l
        induction l with
        | nil => intro _ _; exact List.Pairwise.nil
        | cons q t ih =>
          intro hl nd
          rw [List.map_cons, List.nodup_cons] at nd
          refine List.pairwise_cons.mpr ⟨fun p hp e => nd.1 (List.mem_map.mpr ⟨p, hp, ?_⟩), ih (fun y c m => hl y c (.tail _ m)) nd.2⟩
          exact (cells_inj i.frame.apart (hl q.1 q.2 (.head _)) (e ▸ hl p.1 p.2 (.tail _ hp))).symm
      refine this cl (fun y c m => (hcl1 y c m).1) ?_
      rw [hcl3]
      exact List.pairwise_reverse.mpr ((hnd.sublist (List.filter_sublist.map _)).imp fun q e => q e.symm)
    · rw [hccells] at l
      rw [hcloc]
      intro e
      obtain ⟨v, o, q, _⟩ := i₂.frame.cells x c (hcl1 _ _ (mem_of_lookup l)).1
      rw [e, hCn] at q; cases q
    · rcases hwrc a w with q | q
      · rw [q]; exact hbase C hCn
      · exact i.off a (.inl q)
    · obtain ⟨q1, q2, q3⟩ := hcap.get l
      obtain ⟨v, hv, rp⟩ := i₂.vals x d q1
      refine ⟨v, ?_, rp.ext st₃.ext fun b w z => ⟨⟨w, fun e => by rw [e, hLn] at z; cases z⟩, by rw [oc]; simp⟩⟩
      rcases hv with ⟨kd, _⟩ | ⟨_, c, hc, hv⟩
      · rw [q3] at kd; cases kd
      · refine .inr ⟨?_, c, ?_, st₃.ext.cell hv⟩
        · rw [hce']
          rcases lookup_relabel (env := env) q2 with q | q
          · exact .inr q
          · exact .inl q.2
        · rw [hccells, hcl2 _ (mem_of_lookup q2) rfl]; exact hc
  have loop : codeAny G.M A (.compLoop (.ListComp elt [⟨target, iter, ifs, 0⟩] scope pos) 0 (.ref I) (.ref L) cenv) (compPost G.M A E use Q (.ref L) C) s₃ := by
    have hfpL : ∀ a, fp a → a ≠ L := fun a q e => by have := (hfp a q).1; rw [e, hLn] at this; cases this
    have hfpC : ∀ a, fp a → a ≠ C := fun a q e => by have := (hfp a q).1; rw [e, hCn] at this; cases this
    have hok0 : ∀ a, (okO ok σ a ∧ (s₂.heap.get? a).isSome = true) → okO ok σ a ∧ a ≠ L := fun a q => ⟨q.1, fun e => by have := q.2; rw [e, hLn] at this; cases this⟩
    have hok0C : ∀ a, (okO ok σ a ∧ (s₂.heap.get? a).isSome = true) → a ≠ C := fun a q e => by have := q.2; rw [e, hCn] at this; cases this
    have hwrw : ∀ a, wr a → ¬ Wr cenv σc a := fun a q w => by
      rcases hwrc a w with z | z
      · exact hfpC a (hwr a q).2 z
      · exact (hfp a (hwr a q).2).2 (.inl z)
    have hLw : ¬ Wr cenv σc L := fun w => by
      rcases hwrc L w with z | z
      · exact hLC z
      · rcases z with z | ⟨x, z⟩
        · obtain ⟨m, o, _, _, q, _⟩ := i₂.frame.ns; rw [← z, hLn] at q; cases q
        · obtain ⟨v, o, q, _⟩ := i₂.frame.cells x L z; rw [hLn] at q; cases q
    have hsL : s.heap.get? L = none := st.ext.none hLn
    have hsC : s.heap.get? C = none := st.ext.none hCn
    refine compLoop_any (fun m s' => ∃ j ws, j ≤ ds.length ∧ m = ds.length + 1 - j ∧ Sx j s' ∧ OwnL s'.heap L ws ∧ RepAll (fun b => okO ok σ b ∧ b ≠ L) s'.heap ws (((ds.take j).filter keep).map res) ∧
      Inv G.base (fun b => okO ok σ b ∧ b ≠ L) cenv σc s'.heap ∧ Stp G.base s s' ∧ G.base.StaysIn s'.heap) ?_ (ds.length + 1)
      ⟨0, [], Nat.zero_le _, by omega, W.frame 0 s₂ s₃ (fun _ => False) hst st₃.mv (fun _ _ z => z) (fun _ _ _ z => z), by rw [hh3]; exact hLo, .nil, inv₃, st.trans st₃, st₃.ext.base k₂⟩
    rintro m s' ⟨j, ws, hj, rfl, hSx, hown, hrep, hinv, hstp, hk⟩ E' _
    have hnode : ∀ {P : Addr → Prop} a, P a → IsNode s'.heap a → ¬ wr a := fun a _ nd z => (W.node j s' a hSx z).1 nd
    by_cases hlt : j < ds.length
    · have hd : ds[j]? = some ds[j] := List.getElem?_eq_getElem hlt
      have hdm : ds[j] ∈ ds := List.getElem_mem hlt
      obtain ⟨hass, htest, helt⟩ := hturn cenv CE ds[j] hdm
      refine wpAny_mono (W.item j ds[j] s' E' (fun b => okO ok σ b ∧ b ≠ L) hd hSx hk hok0 hinv.fresh) (fun r' s₄ q => ?_) fun _ _ x => x
      obtain ⟨v, rfl, q⟩ := q
      refine wpAny_mono q (fun _ s₅ q => ?_) fun _ _ x => x
      obtain ⟨rp, hSx₅, mi⟩ := q
      have inv₅ := hinv.mvI mi hwrw (fun a w => (W.node j s' a hSx w).1) fun b w => ⟨i.freshO b (hwr b w).1, hfpL b (hwr b w).2⟩
      have st₅ : Stp G.base s s₅ := (MvI.after (hstp.mv (W := fun _ => False)) mi (fun a w => (hwr a w).1) hwg).stp fun _ z => z.elim
      have own₅ : OwnL s₅.heap L ws := mi.ext.own (fun z => hfpL L (hwr L z).2 rfl) hown
      have rep₅ : RepAll (fun b => okO ok σ b ∧ b ≠ L) s₅.heap ws _ := hrep.extBut mi.ext hnode fun _ q _ => q
      refine wpAny_mono (hass σc _ A s₅ E' v r (st₅.ext.base k) inv₅ oc (rp.weak fun b q => ⟨q, by rw [oc]; simp⟩)) (fun _ s₆ q => ?_) fun _ _ x => x
      obtain ⟨inv₆, mv₆, ow₆⟩ := q
      rw [hcloc] at mv₆
      have st₆ : Stp G.base s s₆ := ((st₅.mv (W := fun _ => False)).trans (mv₆) fun p w => .inr (w ▸ hsC)).stp fun _ z => z.elim
      have own₆ : OwnL s₆.heap L ws := mv₆.ext.own hLC own₅
      have rep₆ : RepAll (fun b => okO ok σ b ∧ b ≠ L) s₆.heap ws _ := rep₅.extBut mv₆.ext (fun a _ nd z => node_not_frame inv₅.frame nd (.inl (z.trans hcloc.symm))) fun _ q _ => q
      have hSx₆ : Sx (j + 1) s₆ := W.frame (j + 1) s₅ s₆ _ hSx₅ mv₆ (fun a q z => hfpC a q z) (fun a q _ z => hok0C a q z)
      refine wpAny_mono (htest _ A s₆ E' r (st₆.ext.base k) inv₆) (fun ok' s₇ q => ?_) fun _ _ x => x
      obtain ⟨st₇, rfl⟩ := q
      have inv₇ := inv₆.ext st₇.ext
      have own₇ := st₇.ext.own own₆
      have rep₇ := rep₆.stp st₇
      have hSx₇ : Sx (j + 1) s₇ := W.frame (j + 1) s₆ s₇ (fun _ => False) hSx₆ st₇.mv (fun _ _ z => z) (fun _ _ _ z => z)
      have st₇' := st₆.trans st₇
      have hns : (owned σc).Nodup := by rw [oc]; exact List.nodup_nil
      have htake : ds.take (j + 1) = ds.take j ++ [ds[j]] := by rw [List.take_add_one, hd]; rfl
      split
      · rename_i hkp
        refine wpAny_mono (helt hkp _ A s₇ E' r (st₇'.ext.base k) inv₇) (fun v' s₈ q => ?_) fun _ _ x => x
        obtain ⟨st₈, rp₈⟩ := q
        have st₈' := st₇'.trans st₈
        obtain ⟨nn, hLe⟩ := st₈.ext.own own₇
        have rep₈ := rep₇.stp st₈
        have hsz : ws.length ≤ ds.length := by
          rw [rep₈.length, List.length_map]
          exact Nat.le_trans (List.length_filter_le _ _) (by rw [List.length_take]; exact Nat.min_le_right _ _)
        refine append_at (hsz := by rw [List.size_toArray]; omega) hLe fun h' hs' hl' => ?_
        have mv₉ : Mv G.base (· = L) s₈ { s₈ with heap := h' } := ⟨fun b o w e => ⟨o, (hs'.2 b w).trans e, rfl, rfl, fun _ => rfl⟩, fun b e => (by
          by_cases hb : b = L
          · have e' : h'.get? b = none := e
            rw [hb, hl'] at e'; cases e'
          · rw [← hs'.2 b hb]; exact e), rfl, .refl⟩
        have st₉ : Stp G.base s { s₈ with heap := h' } := ((st₈'.mv (W := fun _ => False)).trans mv₉ fun p w => .inr (w ▸ hsL)).stp fun _ z => z.elim
        have hSx₈ : Sx (j + 1) s₈ := W.frame (j + 1) s₇ s₈ (fun _ => False) hSx₇ st₈.mv (fun _ _ z => z) (fun _ _ _ z => z)
        refine ⟨ds.length + 1 - (j + 1), by omega, j + 1, ws ++ [v'], hlt, rfl, W.frame (j + 1) s₈ _ _ hSx₈ mv₉ (fun a q z => hfpL a q z) (fun a q _ z => (hok0 a q).2 z), ⟨nn + 1, by rw [hl']; simp⟩, ?_, ?_, st₉, st₉.ext.base k⟩
        · rw [htake, List.filter_append, List.map_append]
          have e1 : [ds[j]].filter keep = [ds[j]] := by simp [hkp]
          rw [e1]
          exact (rep₈.extBut mv₉.ext (fun a q _ z => q.2 z) fun _ q _ => q).append (.cons ((rp₈.weak fun b q => q.1).extBut mv₉.ext (fun a q _ z => q.2 z) fun _ q _ => q) .nil)
        · have inv₈ := (inv₇.ext st₈.ext).sub (hsub _ hdm) hns
          exact inv₈.mvW mv₉ (fun a z w => hLw (z ▸ w)) (fun a z o _ => o.1.2 z)
      · rename_i hkp
        refine ⟨ds.length + 1 - (j + 1), by omega, j + 1, ws, hlt, rfl, hSx₇, own₇, ?_, inv₇.sub (hsub _ hdm) hns, st₇', st₇'.ext.base k⟩
        rw [htake, List.filter_append, List.map_append]
        have e1 : [ds[j]].filter keep = [] := by simp [hkp]
        rw [e1]; simpa using rep₇
    · have hjl : j = ds.length := by omega
      subst hjl
      refine wpAny_mono (W.done s' _ hSx hk) (fun r' s₄ q => ?_) fun _ _ x => x
      obtain ⟨rfl, mi⟩ := q
      have inv₄ := hinv.mvI mi hwrw (fun a w => (W.node _ s' a hSx w).1) fun b w => ⟨i.freshO b (hwr b w).1, hfpL b (hwr b w).2⟩
      have st₄ : Stp G.base s s₄ := (MvI.after (hstp.mv (W := fun _ => False)) mi (fun a w => (hwr a w).1) hwg).stp fun _ z => z.elim
      obtain ⟨mm, hmm⟩ := inv₄.frame.ns
      rw [hcloc] at hmm
      rw [List.take_length] at hrep
      exact K L C ws s₄ mm st₄ hsL hsC hLC (mi.ext.own (fun z => hfpL L (hwr L z).2 rfl) hown) (hrep.extBut mi.ext hnode fun _ q _ => q) hmm
  refine codeAny_compStart_list loop (W.self 0 s₃ _ _ (W.frame 0 s₂ s₃ (fun _ => False) hst st₃.mv (fun _ _ z => z) (fun _ _ _ z => z)) loop)
end
end Mine
end
section
open PySem PySem.W PyProof.Rows PySem.Calls
set_option maxRecDepth 100000
namespace Mine
section
variable {G : Gr} {n : Nat} {env : Env} {σ : St} {sc : Scope}
theorem ns_not_node {h : Heap} {a : Addr} {m : Str → Option Value} (n : h.Ns a m) : ¬ IsNode h a := fun q => by
  obtain ⟨o, es, ep, q1, d, _⟩ := n
  cases q with
  | list l => obtain ⟨o', q', _, k, d'⟩ := l; rw [q1] at q'; cases q'; rw [d] at d'; cases d'
  | tup l => obtain ⟨o', q', _, k, d'⟩ := l; rw [q1] at q'; cases q'; rw [d] at d'; cases d'
  | slice q' _ d' => rw [q1] at q'; cases q'; rw [d] at d'; cases d'
  | rng q' => unfold IsRange at q'; rw [q1] at q'; cases q'; cases d
theorem sameBut_ext {base : Heap} {C : Addr} {h h' : Heap} (hs : Heap.SameBut C h h') : ExtBut base (· = C) h h' := fun b o w e => ⟨o, (hs.2 b w).trans e, rfl, rfl, fun _ => rfl⟩
theorem Inv.butW {base : Heap} {ok : Addr → Prop} {W : Addr → Prop} {h h' : Heap} (i : Inv base ok env σ h) (m : ExtBut base W h h') (fr : FreshOk ok h') (hf : ∀ a, W a → ¬ Wr env σ a) (hn : ∀ a, W a → okO ok σ a → ¬ IsNode h a) : Inv base ok env σ h' := by
  have nf : ∀ a, okO ok σ a → IsNode h a → ¬ W a := fun a o q z => hn a z o q
  have hh : ∀ y v, Holds env h y v → Holds env h' y v := fun y v q => by
    rcases q with ⟨k, mm, hns, r⟩ | ⟨k, c, hc, r⟩
    · obtain ⟨o, es, ep, e, d, rr⟩ := hns
      obtain ⟨o', e', _, d', _⟩ := m _ o (fun z => hf _ z (.inl (.inl rfl))) e
      exact .inl ⟨k, mm, ⟨o', es, ep, e', d'.trans d, rr⟩, r⟩
    · obtain ⟨o, e, d⟩ := r
      obtain ⟨o', e', _, d', _⟩ := m _ o (fun z => hf _ z (.inl (.inr ⟨y, hc⟩))) e
      exact .inr ⟨k, c, hc, o', e', d'.trans d⟩
  refine ⟨⟨i.frame.kind, ?_, fun y c q => ?_, i.frame.apart, i.frame.away, i.frame.glob, i.frame.blt⟩, i.off, fr, fun y d q => ?_, fun y b es q => ?_, fun b w => ?_, i.once⟩
  · obtain ⟨mm, o, es, ep, e, d, rr⟩ := i.frame.ns
    obtain ⟨o', e', _, d', _⟩ := m _ o (fun z => hf _ z (.inl (.inl rfl))) e
    exact ⟨mm, o', es, ep, e', d'.trans d, rr⟩
  · obtain ⟨v, o, e, d⟩ := i.frame.cells y c q
    obtain ⟨o', e', _, d', _⟩ := m _ o (fun z => hf _ z (.inl (.inr ⟨y, q⟩))) e
    exact ⟨v, o', e', d'.trans d⟩
  · obtain ⟨u, p, r⟩ := i.vals y d q
    exact ⟨u, hh y u p, r.extBut m nf fun _ w _ => w⟩
  · obtain ⟨p, o, vs, lv, rs⟩ := i.owns y b es q
    exact ⟨hh y _ p, o, vs, m.own (fun z => hf b z (.inr (owned_of_lookup q))) lv, rs.extBut m nf fun _ w _ => w⟩
  · obtain ⟨vs, lv⟩ := i.there b w
    exact ⟨vs, m.own (fun z => hf b z (.inr w)) lv⟩
/-- what a comprehension gives -/
structure CompOk (G : Gr) (n : Nat) (env : Env) (σ : St) (sc : Scope) (elt target iter : Expr) (ifs : List Expr) (scope : Scope) (out : List D) : Prop where
  go : ∀ {pos ipos : Pos} {use : Option (Value → Sem Unit)} {Q : Value → Shared → Prop} {ok : Addr → Prop} {A : Around} {s : Shared} {E : Value → Shared → Prop}, Room n A → G.base.StaysIn s.heap → Inv G.base ok env σ s.heap →
    (∀ L C ws s' m, Stp G.base s s' → s.heap.get? L = none → s.heap.get? C = none → L ≠ C → OwnL s'.heap L ws → RepAll (fun b => okO ok σ b ∧ b ≠ L) s'.heap ws out → s'.heap.Ns C m → compPost G.M A E use Q (.ref L) C (.ok .next) s') →
    wpAny G.M A (comprehension (.ListComp elt [⟨target, iter, ifs, 0⟩] scope pos) scope env ipos (newList []) false (eval iter env) use) Q E s
theorem CompOk.mk' {elt target iter : Expr} {ifs : List Expr} {scope : Scope} {ds : List D} {σc : St} {f : D → St → St} {keep : D → Bool} {res : D → D} {out : List D}
    (FE : FEnv env sc) (hcap : Cap env σ scope σc) (hi : EvI G n env σ iter target ds) (hsub : ∀ d ∈ ds, Sub σc (f d σc))
    (hturn : ∀ cenv, CEnv cenv scope → ∀ d ∈ ds, AssC G n cenv target d (f d) ∧ Tests G n cenv (f d σc) ifs (keep d) ∧ (keep d = true → Ev G n cenv (f d σc) elt (res d)))
    (hz : ds.length < sizeLine) (ho : (ds.filter keep).map res = out)
    (hfree : (scope.names.all fun p => p.2 != .free || sc.names.lookup p.1 == some .cell) = true := by decide) (hnd : (scope.names.map (·.1)).Nodup := by decide) (hcell : ∀ y ∈ scope.names, y.2 ≠ .cell := by decide) (hkind : scope.kind = .function := by rfl)
    (hs : ∀ x, foldedSetIterable iter env x = pure x := by intro _; rfl) : CompOk G n env σ sc elt target iter ifs scope out :=
  ⟨fun r k i K => comp_core FE hfree hnd hcell hkind hcap hi hsub hturn hz hs r k i (by rw [ho]; exact K)⟩
/-- x = [.. for ..], the store under way while the loop's frame goes -/
theorem Ex1.assignComp {x : Str} {elt target iter : Expr} {ifs : List Expr} {scope : Scope} {p pos spos : Pos} {out : List D} (h : CompOk G n env σ sc elt target iter ifs scope out) (hx : Storable env x)
    (hs : swapsWith (.ListComp elt [⟨target, iter, ifs, 0⟩] scope pos) (some (.Name x p)) spos.line env = pure true) :
    Ex1 G n env σ (.Assign [.Name x p] (.ListComp elt [⟨target, iter, ifs, 0⟩] scope pos) spos) fun fl σ' => fl = .next ∧ ∃ a, σ' = setS x (.own a out) σ := fun ok A s E r k i => by
  rw [exec_Assign_Name_used _ _ _ _ hs]
  refine wpAny_bind (wpAny_standAt (wpAny_bind ?_))
  show wpAny _ A (do let _ ← comprehension (.ListComp elt [⟨target, iter, ifs, 0⟩] scope pos) scope env _ (newList []) false (eval iter env) (some (PySem.assign (.Name x p) env))) _ _ s
  refine wpAny_bind (wpAny_mono (h.go (use := some (PySem.assign (.Name x p) env)) (Q := fun _ s' => After G env σ ok s (fun fl σ' => fl = .next ∧ ∃ a, σ' = setS x (.own a out) σ) .next s') r k i fun L C ws s' m st hL hC hLC l rs hn => ?_)
    (fun _ s' hq => wpAny_pure (wpAny_pure hq)) fun _ _ e => e)
  show wpAny _ A (PySem.assign (.Name x p) env (.ref L)) _ _ _
  refine wpAny_assign_Name ?_
  have i₁ := i.ext st.ext
  have hCF : ¬ FrW env C := fun w => by
    rcases w with z | ⟨x, z⟩
    · obtain ⟨m, o, _, _, q, _⟩ := i.frame.ns; rw [← z, hC] at q; cases q
    · obtain ⟨v, o, q, _⟩ := i.frame.cells x C z; rw [hC] at q; cases q
  refine wpAny_store (base := G.base) i₁.frame hx fun s₂ hv ho F mv => ?_
  have hn₂ : s₂.heap.Ns C m := by
    obtain ⟨o, es, ep, e, d, rr⟩ := hn
    obtain ⟨o', e', _, d', _⟩ := mv.ext _ o hCF e
    exact ⟨o', es, ep, e', d'.trans d, rr⟩
  refine ⟨m, hn₂, fun h' hs' => ?_⟩
  obtain ⟨i', m', k', o'⟩ := After.own k i st hL l rs hv ho F mv
  have fr : FreshOk ok h' := fun b e => by
    by_cases hb : b = C
    · rw [hb]; exact i.fresh C hC
    · exact i'.fresh b ((hs'.2 b hb).symm.trans e)
  have hCo : ¬ Wr env (setS x (.own L out) σ) C := fun w => by
    rcases w with w | w
    · exact hCF w
    · rcases o' C w with w | w
      · obtain ⟨vs, q⟩ := i.there C w; have := q.some; rw [hC] at this; cases this
      · exact hLC w.symm
  have mm : Mv G.base (Wr env σ) s { s₂ with heap := h' } := ⟨fun b o w e => by
      obtain ⟨o', e', c', d', k'⟩ := m'.ext b o w e
      have hb : b ≠ C := fun q => by rw [q, hC] at e; cases e
      exact ⟨o', (hs'.2 b hb).trans e', c', d', k'⟩, fun b e => (by
      by_cases hb : b = C
      · rw [hb]; exact hC
      · exact m'.dom b ((hs'.2 b hb).symm.trans e)), m'.os, m'.gens⟩
  exact ⟨.next, _, ⟨rfl, L, rfl⟩, trivial, i'.butW (sameBut_ext hs') fr (fun a e => e ▸ hCo) (fun a e _ => e ▸ ns_not_node hn₂), mm, mm.base k i.off, fun b w => (o' b w).imp id fun w => by rw [w]; exact hL⟩
end
end Mine
end
section
open PySem PySem.W PyProof.Rows PySem.Calls
set_option maxRecDepth 100000
namespace Mine
theorem own_inj {x y : Str} {a : Addr} {es fs : List D} : ∀ {σ : St}, (owned σ).Nodup → σ.lookup x = some (.own a es) → σ.lookup y = some (.own a fs) → x = y
  | (z, t) :: r, nd, hx, hy => by
    rw [List.lookup_cons] at hx hy
    rw [owned_cons] at nd
    cases ex : x == z with
    | true =>
      rw [ex] at hx; cases hx
      cases ey : y == z with
      | true => rw [beq_iff_eq.mp ex, beq_iff_eq.mp ey]
      | false =>
        rw [ey] at hy
        exact absurd (owned_of_lookup hy) (List.nodup_cons.mp nd).1
    | false =>
      rw [ex] at hx
      cases ey : y == z with
      | true =>
        rw [ey] at hy; cases hy
        exact absurd (owned_of_lookup hx) (List.nodup_cons.mp nd).1
      | false =>
        rw [ey] at hy
        exact own_inj (List.nodup_append.mp nd).2.1 hx hy
theorem owned_mem : ∀ {σ : St} {a : Addr}, a ∈ owned σ → ∃ x es, (x, Slot.own a es) ∈ σ
  | (z, t) :: r, a, h => by
    rw [owned_cons] at h
    rcases List.mem_append.mp h with h | h
    · cases t with
      | val d => cases h
      | own b es => rw [List.mem_singleton.mp h]; exact ⟨z, es, .head _⟩
    · obtain ⟨x, es, q⟩ := owned_mem h
      exact ⟨x, es, .tail _ q⟩
theorem Sub.mem {σ₀ σ : St} (h : Sub σ₀ σ) : ∀ {x s}, (x, s) ∈ σ₀ → σ.lookup x = some s := by
  induction σ₀ with
  | nil => intro _ _ q; cases q
  | cons y r ih =>
    intro x s q
    rcases List.mem_cons.mp q with q | q
    · cases q; exact h.1
    · exact ih h.2 q
theorem Sub.nodup {σ : St} (nd : (Mine.owned σ).Nodup) : ∀ {σ₀ : St}, (σ₀.map (·.1)).Nodup → Sub σ₀ σ → (Mine.owned σ₀).Nodup
  | [], _, _ => List.nodup_nil
  | (x, t) :: r, hn, hs => by
    rw [List.map_cons, List.nodup_cons] at hn
    have ih := Sub.nodup nd hn.2 hs.2
    cases t with
    | val d => exact ih
    | own a es =>
      refine List.nodup_cons.mpr ⟨fun q => ?_, ih⟩
      obtain ⟨y, fs, q⟩ := owned_mem q
      have : x = y := own_inj nd hs.1 (Sub.mem hs.2 q)
      exact hn.1 (List.mem_map.mpr ⟨_, q, this.symm⟩)
section
variable {G : Gr} {n : Nat} {env : Env} {σ : St} {sc : Scope}
theorem Ex.only {σ₀ : St} {body : List Stmt} {Q : Fl → St → Prop} (hs : Sub σ₀ σ) (h : Ex G n env σ₀ body Q) (hn : (σ₀.map (·.1)).Nodup := by simp; try decide) : Ex G n env σ body Q := fun ok A s E r k i =>
  wpAny_mono (h ok A s E r k (i.sub hs (Sub.nodup i.once hn hs))) (fun _ _ a => a.sub hs.owned) fun _ _ x => x
theorem Ex1.only {σ₀ : St} {st : Stmt} {Q : Fl → St → Prop} (hs : Sub σ₀ σ) (h : Ex1 G n env σ₀ st Q) (hn : (σ₀.map (·.1)).Nodup := by simp; try decide) : Ex1 G n env σ st Q := fun ok A s E r k i =>
  wpAny_mono (h ok A s E r k (i.sub hs (Sub.nodup i.once hn hs))) (fun _ _ a => a.sub hs.owned) fun _ _ x => x
theorem Ex.post {body : List Stmt} {Q Q' : Fl → St → Prop} (h : Ex G n env σ body Q) (hq : ∀ fl σ', Q fl σ' → Q' fl σ' ∨ ∃ σ₀, Sub σ₀ σ' ∧ (σ₀.map (·.1)).Nodup ∧ Q' fl σ₀) : Ex G n env σ body Q' := fun ok A s E r k i =>
  wpAny_mono (h ok A s E r k i) (fun f s' a => by
    obtain ⟨fl, σ', q, fi, i', m, k', o⟩ := a
    rcases hq fl σ' q with q' | ⟨σ₀, hs, hn, q'⟩
    · exact ⟨fl, σ', q', fi, i', m, k', o⟩
    exact ⟨fl, σ₀, q', fi, i'.sub hs (Sub.nodup i'.once hn hs), m, k', fun b w => o b (hs.owned b w)⟩) fun _ _ x => x
/-- what a turn of a loop leaves -/
def Turn {ι : Type} (S : ι → St) (K : St → Prop) (Q : Fl → St → Prop) (fl : Fl) (σ₂ : St) : Prop := match fl with
  | .next | .cont => ∃ p, Sub (S p) σ₂
  | .brk => K σ₂
  | .ret r => Q (.ret r) σ₂
/-- the same, with a word on the state's numbers -/
def TurnJ {ι : Type} (S : ι → St) (J : ι → Prop) (K : St → Prop) (Q : Fl → St → Prop) (fl : Fl) (σ₂ : St) : Prop := match fl with
  | .next | .cont => ∃ p, J p ∧ Sub (S p) σ₂
  | .brk => K σ₂
  | .ret r => Q (.ret r) σ₂
theorem Ex.forJ {ι : Type} {target iter : Expr} {body rest : List Stmt} {pos : Pos} {ds : List D} {f : D → St → St} {Q : Fl → St → Prop} (S : Nat → ι → St) (J : Nat → ι → Prop) (p₀ : ι) (hJ : J 0 p₀) (h0 : Sub (S 0 p₀) σ) (nd : ∀ i p, ((S i p).map (·.1)).Nodup)
    (hi : EvI G n env (S 0 p₀) iter target ds) (ht : ∀ d ∈ ds, AssD G n env target d (f d))
    (turn : ∀ i d p, ds[i]? = some d → J i p → Ex G n env (f d (S i p)) body (TurnJ (S (i + 1)) (J (i + 1)) (fun σ₂ => Ex G n env σ₂ rest Q) Q))
    (done : ∀ p, J ds.length p → Ex G n env (S ds.length p) rest Q) (hs : ∀ x, foldedSetIterable iter env x = pure x := by intro _; rfl) : Ex G n env σ (.For target iter body [] pos :: rest) Q := by
  refine Ex.cons (Ex1.only h0 ?_ (nd _ _))
  refine Ex1.for (f := f) hi ht (fun i σ₁ => ∃ p, J i p ∧ σ₁ = S i p) ⟨p₀, hJ, rfl⟩ (fun i d σ₁ hd hJ => ?_) (fun σ₁ hJ => ?_) hs
  · obtain ⟨p, hj, rfl⟩ := hJ
    refine (turn i d p hd hj).post fun fl σ' h => ?_
    cases fl with
    | next => obtain ⟨p', hj', hp⟩ := h; exact .inr ⟨_, hp, nd _ _, p', hj', rfl⟩
    | cont => obtain ⟨p', hj', hp⟩ := h; exact .inr ⟨_, hp, nd _ _, p', hj', rfl⟩
    | brk => exact .inl h
    | ret r => exact .inl h
  · obtain ⟨p, hj, rfl⟩ := hJ
    exact done p hj
theorem Ex.forS {ι : Type} {target iter : Expr} {body rest : List Stmt} {pos : Pos} {ds : List D} {f : D → St → St} {Q : Fl → St → Prop} (S : Nat → ι → St) (p₀ : ι) (h0 : Sub (S 0 p₀) σ) (nd : ∀ i p, ((S i p).map (·.1)).Nodup)
    (hi : EvI G n env (S 0 p₀) iter target ds) (ht : ∀ d ∈ ds, AssD G n env target d (f d))
    (turn : ∀ i d p, ds[i]? = some d → Ex G n env (f d (S i p)) body (Turn (S (i + 1)) (fun σ₂ => Ex G n env σ₂ rest Q) Q))
    (done : ∀ p, Ex G n env (S ds.length p) rest Q) (hs : ∀ x, foldedSetIterable iter env x = pure x := by intro _; rfl) : Ex G n env σ (.For target iter body [] pos :: rest) Q := by
  refine Ex.forJ S (fun _ _ => True) p₀ trivial h0 nd hi ht (fun i d p hd _ => (turn i d p hd).mono fun fl σ' h => ?_) (fun p _ => done p) hs
  cases fl with
  | next => obtain ⟨p, h⟩ := h; exact ⟨p, trivial, h⟩
  | cont => obtain ⟨p, h⟩ := h; exact ⟨p, trivial, h⟩
  | brk => exact h
  | ret r => exact h
end
end Mine
end
section
open PySem PySem.W PyProof.Rows PySem.Calls
set_option maxRecDepth 100000
namespace Mine
section
variable {G : Gr} {n : Nat} {env : Env} {σ : St} {sc : Scope}
theorem fn_ev {d : DefRec} {a : Addr} {p : Pos} (F : FnAt G d a) (hk : env.kindOf d.name = some .globalImplicit) (hd : (d.name == ("__debug__" : Str)) = false := by decide) : Ev G n env σ (.Name d.name p) (.raw (.ref a)) :=
  .global hk F.name (fun _ _ => .raw _) hd
theorem FnAt.callee {d : DefRec} {a : Addr} (F : FnAt G d a) : Callee G (.ref a) := by
  obtain ⟨o, pm, code, doc, h1, h2, _⟩ := F.obj
  exact .fn h1 h2
theorem CallD.fn1 {d : DefRec} {a : Addr} {d1 r : D} {x : Str} (F : FnAt G d a) (h : ∀ env, FEnv env d.scope → Ex G n env [(x, .val d1)] d.body fun fl _ => fl = .ret r)
    (hx : d.params.args.map (·.arg) = [x] := by rfl) (hb : ∀ pm code doc v, bindArgs (docDef d.name d.params d.body d.scope pm code doc) ⟨[v], []⟩ = pure [(x, v)] := by intros; rfl)
    (hkind : (d.params.args.all fun y => d.scope.names.lookup y.arg == some .local || d.scope.names.lookup y.arg == some .cell) = true := by rfl)
    (hco : d.scope.isCoroutine = false := by rfl) (hgen : d.scope.isGenerator = false := by rfl) (hk : d.scope.kind = .function := by rfl) : CallD G (n + 1) (.ref a) [d1] r := by
  refine CallD.def F (by rw [← List.length_map (f := fun y : Arg => y.arg), hx]; rfl) (fun pm code doc vs hl => ?_) hkind (by rw [hx]; simp) (fun env FE => ?_) hco hgen hk
  · rw [hx]
    match vs, hl with
    | [v], _ => exact hb pm code doc v
  · rw [hx]; exact h env FE
end
end Mine
end
section
open PySem PySem.W PyProof.Rows PySem.Calls
set_option maxRecDepth 100000
namespace Mine
section
variable {p : Program} {loose : List Str} {mean : ExcName → Option Value} {mg mb : Str → Option Value} {s₁ : Shared} {prog : Program} {w : World}
/-- the ground behind the top -/
def groundOf (T : Top p loose mean mg mb s₁.heap) (prog : Program) (w : World) : Gr := ⟨prog, w, s₁.heap, mg, mb, T.g, T.b, T.builtins, T.nolimit⟩
theorem fnAt_of (T : Top p loose mean mg mb s₁.heap) {d : DefRec} (j : Nat) (h : (recsOf p)[j]? = some d) : ∃ a, FnAt (groundOf T prog w) d a := by
  obtain ⟨a, o, pm, code, doc, h1, h2, h3, h4⟩ := T.fn d (List.mem_of_getElem? h)
  exact ⟨a, h1, o, pm, code, doc, h2, h3, h4⟩
theorem fnAt_law (T : Top p loose mean mg mb s₁.heap) {d : DefRec} {fa : Addr} (hmg : mg d.name = some (.ref fa)) (j : Nat) (h : (recsOf p)[j]? = some d) : FnAt (groundOf T prog w) d fa := by
  obtain ⟨a, F⟩ := fnAt_of (prog := prog) (w := w) T j h
  have : mg d.name = some (.ref a) := F.name
  rw [hmg] at this; cases this
  exact F
theorem free_of (T : Top p loose mean mg mb s₁.heap) (x : Str) (h : (startupNames.contains x || loose.contains x || ((recsOf p).map (·.name)).contains x || ((litsOf p).map (·.1)).contains x || ((clssOf p loose).map (·.name)).contains x) = false) : (groundOf T prog w).mg x = none := by
  simp only [Bool.or_eq_false_iff] at h
  have q : ∀ {l : List Str}, l.contains x = false → x ∉ l := fun hl hm => by rw [List.contains_iff_mem.mpr hm] at hl; cases hl
  exact T.free x (q h.1.1.1.1) (q h.1.1.1.2) (q h.1.1.2) (q h.1.2) (q h.2)
theorem rep_ints {ok : Addr → Prop} {h : Heap} : ∀ {vs : List Value} {ns : List Int}, IntsAre vs ns → RepAll ok h vs (ns.map .int)
  | _, _, .nil => .nil
  | _, _, .cons n t r => .cons (.int n t) (rep_ints r)
end
end Mine
end
section
open PySem PySem.W PyProof.Rows PySem.Calls
set_option maxRecDepth 100000
namespace Mine
open Builtin.Str StrLaws
/-- the places of a sign, at most k of them -/
def pos (c : Nat) : Nat → Nat → List Nat → List Nat
  | _, _, [] => []
  | 0, _, _ => []
  | k + 1, a, x :: r => if x = c then a :: pos c k (a + 1) r else pos c (k + 1) (a + 1) r
theorem pos_zero (c a : Nat) (l : List Nat) : pos c 0 a l = [] := by cases l <;> rfl
theorem subAt_one {l : List Nat} {c i : Nat} : subAt ⟨l.toArray⟩ ⟨#[c]⟩ i = decide (l[i]? = some c) := by
  unfold subAt
  show (l.toArray.extract i (i + 1) == #[c]) = _
  rw [show (l.toArray.extract i (i + 1)) = ((l.drop i).take 1).toArray from by apply Array.toList_inj.mp; simp]
  cases e : l[i]? with
  | none =>
    have : l.drop i = [] := List.drop_eq_nil_of_le (by simpa using List.getElem?_eq_none_iff.mp e)
    rw [this]; rfl
  | some x =>
    obtain ⟨hi, hx⟩ := List.getElem?_eq_some_iff.mp e
    rw [List.drop_eq_getElem_cons hi, hx]
    simp; rfl
theorem occ_loop (l : List Nat) (c k : Nat) : ∀ (m a : Nat) (acc : Array Nat) (free : Nat), free ≤ a → a + m = l.length + 1 →
    ((forIn (List.range' a m) (acc, free) (occBody ⟨l.toArray⟩ ⟨#[c]⟩ l.length k)).run).fst.toList = acc.toList ++ pos c (k - acc.size) a (l.drop a)
  | 0, a, acc, free, h, e => by
    rw [List.drop_eq_nil_of_le (by omega)]
    simp [pos]
  | m + 1, a, acc, free, h, e => by
    rw [List.range'_succ, List.forIn_cons]
    unfold occBody
    rw [subAt_one]
    show ((if ((acc.size < k ∧ free ≤ a) ∧ a + 1 ≤ l.length) ∧ decide (l[a]? = some c) = true then (pure (ForInStep.yield (acc.push a, a + 1)) : Id (ForInStep (Array Nat × Nat))) else pure (ForInStep.yield (acc, free))) >>= _ : Id (Array Nat × Nat)).run.fst.toList = _
    by_cases hl : a < l.length
    · rw [List.drop_eq_getElem_cons hl]
      by_cases hk : acc.size < k
      · obtain ⟨j, hj⟩ : ∃ j, k - acc.size = j + 1 := ⟨k - acc.size - 1, by omega⟩
        rw [hj]
        unfold pos
        by_cases hc : l[a] = c
        · rw [if_pos ⟨⟨⟨hk, h⟩, hl⟩, by simp [hl, hc]⟩, if_pos hc]
          refine (occ_loop l c k m (a + 1) (acc.push a) (a + 1) (Nat.le_refl _) (by omega)).trans ?_
          have : k - (acc.push a).size = j := by rw [Array.size_push]; omega
          rw [this]; simp
        · rw [if_neg (fun q => hc (by have := of_decide_eq_true q.2; rw [List.getElem?_eq_getElem hl] at this; exact Option.some.inj this)), if_neg hc]
          refine (occ_loop l c k m (a + 1) acc free (by omega) (by omega)).trans ?_
          rw [hj]
      · have hj : k - acc.size = 0 := by omega
        rw [if_neg (fun q => hk q.1.1.1)]
        refine (occ_loop l c k m (a + 1) acc free (by omega) (by omega)).trans ?_
        rw [hj, pos_zero, pos_zero]
    · rw [if_neg (fun q => hl q.1.2)]
      refine (occ_loop l c k m (a + 1) acc free (by omega) (by omega)).trans ?_
      rw [List.drop_eq_nil_of_le (by omega), List.drop_eq_nil_of_le (by omega)]
      cases k - acc.size <;> rfl
theorem occ_one (l : List Nat) (c k : Nat) : occurrences ⟨l.toArray⟩ ⟨#[c]⟩ 0 l.length k = pos c k 0 l := by
  rw [occ_eq]
  have := occ_loop l c k (l.length + 1 - 0) 0 #[] 0 (Nat.le_refl _) (by omega)
  simpa using this
abbrev S (l : List Nat) : Str := ⟨l.toArray⟩
theorem S_length (l : List Nat) : (S l).length = l.length := by show l.toArray.size = _; simp
end Mine
end
section
open PySem PySem.W PyProof.Rows PySem.Calls
set_option maxRecDepth 100000
namespace Mine
theorem data_list {n : Nat} {ds : List D} (h : ∀ d ∈ ds, d.data n = true) : (D.list ds).data (n + 1) = true := by
  show D.datas n ds = true
  induction ds with
  | nil => rfl
  | cons d r ih =>
    show (D.data n d && D.datas n r) = true
    rw [h d (.head _), ih fun e q => h e (.tail _ q)]; rfl
/-- good code points -/
def Good (l : List Nat) : Prop := ∀ c ∈ l, c < 1114112
theorem Good.data {l : List Nat} (h : Good l) {n : Nat} : (D.str (S l)).data n = true := by
  have : PyData.strOk (S l) = true := by
    unfold PyData.strOk
    rw [Array.all_eq_true']
    intro c hc
    simpa using h c (by simpa using hc)
  cases n <;> exact this
end Mine
end
section
open PySem PySem.W PyProof.Rows PySem.Calls
set_option maxRecDepth 100000
namespace Mine
section
variable {G : Gr} {n : Nat} {env : Env} {σ : St} {sc : Scope}
/-- an iterator whose own objects grow -/
structure ItrD (G : Gr) (A : Around) (ok : Addr → Prop) (target : Expr) (I : Addr) (ds : List D) (C : Addr → Prop) (wg : Nat → Prop) (Sx : Nat → (Addr → Prop) → Shared → Prop) : Prop where
  core : ∀ i F s, Sx i F s → ∀ a, C a → F a
  frame : ∀ i F s s' W, Sx i F s → Mv G.base W s s' → (∀ a, F a → ¬ W a) → (∀ a, ok a → IsNode s.heap a → ¬ W a) → Sx i F s'
  node : ∀ i F s a, Sx i F s → F a → ¬ IsNode s.heap a ∧ (s.heap.get? a).isSome = true
  item : ∀ i F d s E ok', ds[i]? = some d → Sx i F s → G.base.StaysIn s.heap → (∀ a, ok a → ok' a) → (∀ a, F a → ok' a) → FreshOk ok' s.heap → wpAny G.M A (pyNext (.ref I)) (fun r s₁ => ∃ v, r = some v ∧
    wpAny G.M A (letOwnedTupleGo target (.ref I) v) (fun _ s' => Rep ok' s'.heap v d ∧ MvI G.base F wg s s' ∧ ∃ F', Sx (i + 1) F' s' ∧ ∀ a, F' a → F a ∨ s.heap.get? a = none) E s₁) E s
  done : ∀ F s E, Sx ds.length F s → G.base.StaysIn s.heap → wpAny G.M A (pyNext (.ref I)) (fun r s' => r = none ∧ MvI G.base F wg s s') E s
def EvID (G : Gr) (n : Nat) (env : Env) (σ : St) (e target : Expr) (ds : List D) : Prop := ∀ ok A s E, Room n A → G.base.StaysIn s.heap → Inv G.base ok env σ s.heap →
  wpAny G.M A (eval e env) (fun x s₁ => wpAny G.M A (pyIter x) (fun it s' => Stp G.base s s' ∧ ∃ I wg Sx C, it = .ref I ∧
    ItrD G A (fun a => okO ok σ a ∧ (s'.heap.get? a).isSome = true) target I ds C wg Sx ∧ Sx 0 C s' ∧ (∀ a, C a → s.heap.get? a = none) ∧ ∀ g, wg g → s.gens[g]? = none) E s₁) E s
theorem fresh_not_wr {base : Heap} {ok : Addr → Prop} {h : Heap} {a : Addr} (i : Inv base ok env σ h) (h0 : h.get? a = none) : ¬ Wr env σ a := by
  rintro ((w | ⟨x, w⟩) | w)
  · obtain ⟨m, o, _, _, q, _⟩ := i.frame.ns; rw [← w, h0] at q; cases q
  · obtain ⟨_, o, q, _⟩ := i.frame.cells x a w; rw [h0] at q; cases q
  · obtain ⟨vs, l⟩ := i.there a w; have := l.some; rw [h0] at this; cases this
theorem Ex1.forD {target iter : Expr} {body : List Stmt} {pos : Pos} {ds : List D} {f : D → St → St} {Q : Fl → St → Prop} (hi : EvID G n env σ iter target ds) (ht : ∀ d ∈ ds, AssD G n env target d (f d)) (J : Nat → St → Prop) (h0 : J 0 σ)
    (turn : ∀ i d σ₁, ds[i]? = some d → J i σ₁ → Ex G n env (f d σ₁) body fun fl σ₂ => match fl with
      | .next | .cont => J (i + 1) σ₂
      | .brk => Q .next σ₂
      | .ret r => Q (.ret r) σ₂)
    (done : ∀ σ₁, J ds.length σ₁ → Q .next σ₁) (hs : ∀ x, foldedSetIterable iter env x = pure x := by intro _; rfl) : Ex1 G n env σ (.For target iter body [] pos) Q := fun ok A s E r k i => by
  refine wpAny_For (wpAny_mono (hi ok A s E r k i) (fun x s₁ p₁ => wpAny_mono p₁ (fun it s₂ p₂ => ?_) fun _ _ x => x) fun _ _ x => x) hs
  obtain ⟨st, I, wg, Sx, F₀, rfl, W, hst, hF₀, hwg⟩ := p₂
  have i₂ := i.ext st.ext
  refine codeAny_forLoop_any (fun m s' => ∃ j σ₁ F, j ≤ ds.length ∧ m = ds.length + 1 - j ∧ J j σ₁ ∧ Sx j F s' ∧ Inv G.base ok env σ₁ s'.heap ∧ Mv G.base (Wr env σ) s s' ∧ G.base.StaysIn s'.heap ∧
    (∀ a ∈ owned σ₁, a ∈ owned σ ∨ s₂.heap.get? a = none) ∧ (∀ b, s'.heap.get? b = none → s₂.heap.get? b = none) ∧ (∀ a, F a → s.heap.get? a = none) ∧ (∀ a, F a → a ∉ owned σ₁) ∧ ∀ a, F a → F₀ a ∨ s₂.heap.get? a = none) ?_ (ds.length + 1)
    ⟨0, σ, F₀, Nat.zero_le _, by omega, h0, hst, i₂, st.mv, st.ext.base k, fun a w => .inl w, fun _ e => e, hF₀, fun a q w => fresh_not_wr i (hF₀ a q) (.inr w), fun a q => .inl q⟩
  rintro m s' ⟨j, σ₁, F, hj, rfl, hJ, hSx, hinv, hmv, hk, how, hdom, hF, hFo, hFs⟩
  have hfpw : ∀ a, F a → ¬ Wr env σ₁ a := fun a q w => by
    rcases w with w | w
    · exact fresh_not_wr i (hF a q) (.inl w)
    · exact hFo a q w
  have hok1 : ∀ a, (okO ok σ a ∧ (s₂.heap.get? a).isSome = true) → okO ok σ₁ a := fun a q => ⟨q.1.1, fun w => (how a w).elim q.1.2 fun z => by rw [z] at q; cases q.2⟩
  by_cases hlt : j < ds.length
  · have hd : ds[j]? = some ds[j] := List.getElem?_eq_getElem hlt
    refine wpAny_mono (W.item j F ds[j] s' _ (okO ok σ₁) hd hSx hk hok1 (fun a q => ⟨i.fresh a (hF a q), hFo a q⟩) hinv.freshO) (fun r' s₃ q => ?_) fun _ _ x => x
    obtain ⟨v, rfl, q⟩ := q
    refine wpAny_mono q (fun _ s₄ q => ?_) fun _ _ x => x
    obtain ⟨rp, mi, F', hSx', hdn⟩ := q
    have inv₄ := hinv.mvI mi hfpw (fun a w => (W.node j F s' a hSx w).1) fun b w => i.fresh b (hF b w)
    have mv₄ := MvI.after hmv mi (fun a w => hF a w) hwg
    have hk₄ := mv₄.base k i.off
    have hF'0 : ∀ a, F' a → s.heap.get? a = none := fun a q => (hdn a q).elim (hF a) fun z => hmv.dom a z
    have hF'o : ∀ a, F' a → a ∉ owned σ₁ := fun a q w => (hdn a q).elim (fun z => hFo a z w) fun z => by
      obtain ⟨vs, l⟩ := hinv.there a w; have := l.some; rw [z] at this; cases this
    have hF'w : ∀ a, F' a → ¬ Wr env σ₁ a := fun a q w => by
      rcases w with w | w
      · exact fresh_not_wr i (hF'0 a q) (.inl w)
      · exact hF'o a q w
    refine wpAny_mono (ht ds[j] (List.getElem_mem hlt) σ₁ ok A s₄ _ v r hk₄ inv₄ rp) (fun _ s₅ q => ?_) fun _ _ x => x
    obtain ⟨inv₅, mv₅, ow₅⟩ := q
    have mv₅' : Mv G.base (Wr env σ) s s₅ := mv₄.trans mv₅ fun a w => by
      rcases w with w | w
      · exact .inl (.inl w)
      · exact (how a w).imp .inr fun z => st.ext.none z
    have hk₅ := mv₅'.base k i.off
    have hSx₅ : Sx (j + 1) F' s₅ := W.frame (j + 1) F' s₄ s₅ _ hSx' mv₅ (fun a q => hF'w a q) fun a q nd w => by
      rcases w with w | w
      · exact node_not_frame inv₄.frame nd w
      · exact (hok1 a q).2 w
    refine wpAny_mono (turn j ds[j] σ₁ hd hJ ok A s₅ _ r hk₅ inv₅) (fun fl s₆ q => ?_) fun _ _ x => x
    obtain ⟨fl', σ₂, q, fi, inv₆, mv₆, hk₆, ow₆⟩ := q
    have mv₆' : Mv G.base (Wr env σ) s s₆ := mv₅'.trans mv₆ fun a w => by
      rcases w with w | w
      · exact .inl (.inl w)
      · exact (how a (ow₅ a w)).imp .inr fun z => st.ext.none z
    have dom₅ : ∀ b, s₅.heap.get? b = none → s₂.heap.get? b = none := fun b e => by
      have e4 := mv₅.dom b e
      by_cases z : F b
      · rcases hFs b z with z | z
        · have := (W.node _ _ _ b hSx' (W.core _ _ _ hSx' b z)).2; rw [e4] at this; cases this
        · exact z
      · exact hdom b (mi.dom b z e4)
    have hFs' : ∀ a, F' a → F₀ a ∨ s₂.heap.get? a = none := fun a q => (hdn a q).elim (hFs a) fun z => .inr (hdom a z)
    have how₆ : ∀ a ∈ owned σ₂, a ∈ owned σ ∨ s₂.heap.get? a = none := fun a w => by
      rcases ow₆ a w with w | w
      · exact how a (ow₅ a w)
      · exact .inr (dom₅ a w)
    have how₆' : ∀ a ∈ owned σ₂, a ∈ owned σ ∨ s.heap.get? a = none := fun a w => (how₆ a w).imp id fun z => st.ext.none z
    have hFo₆ : ∀ a, F' a → a ∉ owned σ₂ := fun a q w => by
      rcases ow₆ a w with w | w
      · exact hF'o a q (ow₅ a w)
      · have := (W.node _ _ _ a hSx₅ q).2; rw [w] at this; cases this
    have go : J (j + 1) σ₂ → ∃ m, m < ds.length + 1 - j ∧ ∃ j' σ₁ F, j' ≤ ds.length ∧ m = ds.length + 1 - j' ∧ J j' σ₁ ∧ Sx j' F s₆ ∧ Inv G.base ok env σ₁ s₆.heap ∧ Mv G.base (Wr env σ) s s₆ ∧ G.base.StaysIn s₆.heap ∧
        (∀ a ∈ owned σ₁, a ∈ owned σ ∨ s₂.heap.get? a = none) ∧ (∀ b, s₆.heap.get? b = none → s₂.heap.get? b = none) ∧ (∀ a, F a → s.heap.get? a = none) ∧ (∀ a, F a → a ∉ owned σ₁) ∧ ∀ a, F a → F₀ a ∨ s₂.heap.get? a = none := fun hq =>
      ⟨ds.length + 1 - (j + 1), by omega, j + 1, σ₂, F', hlt, rfl, hq, W.frame (j + 1) F' s₅ s₆ _ hSx₅ mv₆ (fun a q w => by
          rcases w with w | w
          · exact hF'w a q (.inl w)
          · exact hF'o a q (ow₅ a w)) (fun a q nd w => by
          rcases w with w | w
          · exact node_not_frame inv₅.frame nd w
          · exact (hok1 a q).2 (ow₅ a w)), inv₆, mv₆', hk₆, how₆, fun b e => dom₅ b (mv₆.dom b e), hF'0, hFo₆, hFs'⟩
    cases fl <;> cases fl' <;> first | exact fi.elim | skip
    · exact go q
    · exact ⟨.next, σ₂, q, trivial, inv₆, mv₆', hk₆, how₆'⟩
    · exact go q
    · exact ⟨.ret _, σ₂, q, fi, inv₆, mv₆', hk₆, how₆'⟩
  · have hjl : j = ds.length := by omega
    subst hjl
    refine wpAny_mono (W.done F s' _ hSx hk) (fun r' s₃ q => ?_) fun _ _ x => x
    obtain ⟨rfl, mi⟩ := q
    have inv₃ := hinv.mvI mi hfpw (fun a w => (W.node _ F s' a hSx w).1) fun b w => i.fresh b (hF b w)
    have mv₃ := MvI.after hmv mi (fun a w => hF a w) hwg
    exact wpAny_execs_nil ⟨.next, σ₁, done σ₁ hJ, trivial, inv₃, mv₃, mv₃.base k i.off, fun a w => (how a w).imp id fun z => st.ext.none z⟩
theorem Ex.forDJ {ι : Type} {target iter : Expr} {body rest : List Stmt} {pos : Pos} {ds : List D} {f : D → St → St} {Q : Fl → St → Prop} (S : Nat → ι → St) (J : Nat → ι → Prop) (p₀ : ι) (hJ : J 0 p₀) (h0 : Sub (S 0 p₀) σ) (nd : ∀ i p, ((S i p).map (·.1)).Nodup)
    (hi : EvID G n env (S 0 p₀) iter target ds) (ht : ∀ d ∈ ds, AssD G n env target d (f d))
    (turn : ∀ i d p, ds[i]? = some d → J i p → Ex G n env (f d (S i p)) body (TurnJ (S (i + 1)) (J (i + 1)) (fun σ₂ => Ex G n env σ₂ rest Q) Q))
    (done : ∀ p, J ds.length p → Ex G n env (S ds.length p) rest Q) (hs : ∀ x, foldedSetIterable iter env x = pure x := by intro _; rfl) : Ex G n env σ (.For target iter body [] pos :: rest) Q := by
  refine Ex.cons (Ex1.only h0 ?_ (nd _ _))
  refine Ex1.forD (f := f) hi ht (fun i σ₁ => ∃ p, J i p ∧ σ₁ = S i p) ⟨p₀, hJ, rfl⟩ (fun i d σ₁ hd hJ => ?_) (fun σ₁ hJ => ?_) hs
  · obtain ⟨p, hj, rfl⟩ := hJ
    refine (turn i d p hd hj).post fun fl σ' h => ?_
    cases fl with
    | next => obtain ⟨p', hj', hp⟩ := h; exact .inr ⟨_, hp, nd _ _, p', hj', rfl⟩
    | cont => obtain ⟨p', hj', hp⟩ := h; exact .inr ⟨_, hp, nd _ _, p', hj', rfl⟩
    | brk => exact .inl h
    | ret r => exact .inl h
  · obtain ⟨p, hj, rfl⟩ := hJ
    exact done p hj
end
end Mine
end
section
open PySem PySem.W PyProof.Rows PySem.Calls
set_option maxRecDepth 100000
namespace Mine
section
variable {G : Gr} {n : Nat} {env : Env} {σ : St} {sc : Scope}
def nodeType (T : String) : Bool := (["list", "tuple", "slice", "range"] : List String).contains T
theorem not_node {h : Heap} {a : Addr} {o : Obj} {T : String} (e : h.get? a = some o) (c : o.cls = .type T) (hT : nodeType T = false) : ¬ IsNode h a := fun nd => by
  cases nd with
  | list l => obtain ⟨o₂, e₂, c₂, _⟩ := l; rw [e] at e₂; cases e₂; rw [c] at c₂; cases c₂; cases hT
  | tup l => obtain ⟨o₂, e₂, c₂, _⟩ := l; rw [e] at e₂; cases e₂; rw [c] at c₂; cases c₂; cases hT
  | slice e₂ c₂ _ => rw [e] at e₂; cases e₂; rw [c] at c₂; cases c₂; cases hT
  | rng e₂ => unfold IsRange at e₂; rw [e] at e₂; cases e₂; cases c; cases hT
theorem node_keep {base : Heap} {W : Addr → Prop} {h h' : Heap} {b : Addr} {o : Obj} (x : ExtBut base W h h') (nd : IsNode h b) (w : ¬ W b) (e : h.get? b = some o) : h'.get? b = some o := by
  obtain ⟨o', e', _, _, k'⟩ := x b o w e
  rw [e', k' (.inr ?_)]
  cases nd with
  | list l => obtain ⟨o₂, e₂, _, k, d⟩ := l; rw [e] at e₂; cases e₂; rw [d]; rfl
  | tup l => obtain ⟨o₂, e₂, _, k, d⟩ := l; rw [e] at e₂; cases e₂; rw [d]; rfl
  | slice e₂ _ d => rw [e] at e₂; cases e₂; rw [d]; rfl
  | rng e₂ => unfold IsRange at e₂; rw [e] at e₂; cases e₂; rfl
theorem MvI.of_keepL {base : Heap} {l : List Addr} {s : Shared} {h' : Heap} {tk : Nat} (h : ∀ b o, b ∉ l → s.heap.get? b = some o → h'.get? b = some o) : MvI base (· ∈ l) (fun _ => False) s { s with heap := h', toks := tk } :=
  ⟨fun b o w e => ⟨o, h b o w e, rfl, rfl, fun _ => rfl⟩, fun b w e => (by
    cases q : s.heap.get? b with
    | none => rfl
    | some o => (have := h b o w q; rw [show h'.get? b = none from e] at this; cases this)), rfl, fun _ _ _ e => e, fun q => q⟩
theorem Itr.of_walksT {A : Around} {ok : Addr → Prop} {elts : List Expr} {k : Nat} {pos : Pos} {I : Addr} {ds ds' : List D} {vs : List Value} {fpl wrl : List Addr} {m : Nat} {Pt : Nat → Array Value → Prop} {Stt : Nat → Heap → Prop} {Mid : Nat → Addr → Heap → Prop}
    (W : WalksT G.prog G.w A I fpl wrl m Pt Stt Mid) (hm : m = ds.length)
    (hfp : ∀ b ∈ fpl, b ∈ wrl ∨ (ok b ∧ ∀ i h, Stt i h → IsNode h b)) (hobj : ∀ i h, Stt i h → ∀ b ∈ wrl, ∃ o T, h.get? b = some o ∧ o.cls = .type T ∧ isDict o.data = false ∧ nodeType T = false)
    (hP : ∀ i vals d h, ds[i]? = some d → Pt i vals → RepAll ok h vs ds' → ∃ es, d = .tuple es ∧ RepAll ok h vals.toList es) :
    Itr G A ok (.Tuple elts k pos) I ds (· ∈ wrl) (· ∈ wrl) (fun _ => False) (fun i s => Stt i s.heap ∧ RepAll ok s.heap vs ds') where
  frame := fun i s s' W' hs mv hf hn => by
    refine ⟨W.frame i s.heap s'.heap hs.1 fun b hb o e => ?_, hs.2.extBut mv.ext hn fun _ q _ => q⟩
    rcases hfp b hb with q | ⟨q1, q2⟩
    · obtain ⟨o₁, T, e₁, _, d₁, _⟩ := hobj i _ hs.1 b q
      rw [e] at e₁; cases e₁
      obtain ⟨o', e', _, _, k'⟩ := mv.ext b o (hf b q) e
      rw [e', k' (.inr d₁)]
    · have nd := q2 i _ hs.1
      exact node_keep mv.ext nd (hn b q1 nd) e
  node := fun i s a hs ha => by
    obtain ⟨o, T, e, c, _, hT⟩ := hobj i _ hs.1 a ha
    exact ⟨not_node e c hT, by rw [e]; rfl⟩
  item := fun i d s E ok' hd hs kb hok hfr => by
    have hlt : i < m := by rw [hm]; exact (List.getElem?_eq_some_iff.mp hd).1
    refine W.item i s _ E hlt hs.1 fun T vals h' tk hp hT ht hmid hk => ?_
    refine ⟨_, rfl, W.go elts k pos i T _ _ E hmid fun h'' hst hk' => ?_⟩
    have hTw := W.apart i T h' hmid
    have mi : MvI G.base (· ∈ wrl) (fun _ => False) s { s with heap := h'', toks := tk } := .of_keepL fun b o w e => hk' b o w (hk b o w e)
    have rs : RepAll ok h'' vs ds' := hs.2.extBut mi.ext (fun a q nd z => by
      obtain ⟨o, T, e, c, _, hT⟩ := hobj i _ hs.1 a z
      exact not_node e c hT nd) fun _ q _ => q
    obtain ⟨es, rfl, res⟩ := hP i vals d h'' hd hp rs
    have hTf : s.heap.get? T = none := by
      cases q : s.heap.get? T with
      | none => rfl
      | some o => exact absurd (Heap.lt_size q) (Nat.not_lt.mpr hT)
    refine ⟨.tuple (hfr T hTf) ?_ (res.weak hok), ⟨hst, rs⟩, mi⟩
    obtain ⟨o, e, c, n', dd⟩ := ht
    exact ⟨o, hk' T o hTw e, c, n', by simpa using dd⟩
  done := fun s E hs kb => W.done s _ E (hm ▸ hs.1) fun h' tk hk => ⟨rfl, .of_keepL hk⟩
  self := fun i s Q E hs hq => W.self i s Q E hs.1 hq
/-- numbered -/
def enumL (ds : List D) : List D := ds.zipIdx.map fun p => .tuple [.int (p.2 : Nat), p.1]
theorem enumL_get {ds : List D} {i : Nat} {d : D} : (enumL ds)[i]? = some d ↔ ∃ e, ds[i]? = some e ∧ d = .tuple [.int (i : Nat), e] := by
  unfold enumL
  rw [List.getElem?_map, List.getElem?_zipIdx]
  cases ds[i]? <;> simp [eq_comm]
theorem enumL_length (ds : List D) : (enumL ds).length = ds.length := by simp [enumL]
end
end Mine
end
section
open PySem PySem.W PyProof.Rows PySem.Calls
set_option maxRecDepth 100000
namespace Mine
def Sg (M : Model) (A : Around) (P : End → Shared → Prop) (c : Code) (t : Sem Fin) (fs : List PySem.Frame) (s : Shared) : Prop :=
  ∀ Γ p, Γ.code = c → Γ.Woken A → ∃ e s', Runs M Γ p t fs s e s' ∧ P e s'
section
variable {M : Model} {A : Around} {P : End → Shared → Prop} {c : Code} {fs : List PySem.Frame} {s : Shared}
theorem Sg.wrap {α : Type} {m : Sem α} {K : α → Sem Fin} {H : Value → Sem Fin} {gd : Bool → Bool} {lv : List Value → List Value} (h : wpAny M (A.over c fs) m (fun a s' => Sg M A P c (K a) fs s') (fun x s' => Sg M A P c (H x) fs s') s) :
    Sg M A P c (m.wrap K H gd lv) fs s := fun Γ p hc hw => by
  subst hc
  exact runs_wrap_of_wp K H gd lv m (h (Γ.over fs) p (hw.over fs)) (fun a p' s' q => q Γ p' rfl hw) fun x p' s' q => q Γ p' rfl hw
theorem Sg.stand {q : Pos} {k : Unit → Sem Fin} (h : Sg M A P c (k ()) fs s) : Sg M A P c (.at q k) fs s := .wrap (m := standAt q) (H := .raise) (gd := id) (lv := id) (wpAny_standAt h)
theorem Sg.mark {l : List Value} {k : Unit → Sem Fin} (h : Sg M A P c (k ()) fs s) : Sg M A P c (.point l k) fs s := .wrap (m := point) (H := .raise) (gd := id) (lv := fun _ => l) (wpAny_point h)
theorem Sg.enter {c' : Code} {h : Option Value} {g : Bool} {l : List Value} {k : Result → Sem Fin} (q : ∀ p, Sg M A P c' (M.den c') (.ret k h g l c p [] :: fs) s) : Sg M A P c (.call c' h g l k) fs s := fun Γ p hc hw => by
  subst hc
  obtain ⟨e, s', hr, he⟩ := q p (Γ.goto c') p rfl (hw.goto c')
  exact ⟨e, s', runs_call_seg hr, he⟩
theorem Sg.back {k : Result → Sem Fin} {h : Option Value} {g : Bool} {l : List Value} {c₁ : Code} {p₁ : Pos} {kp : List Value} (r : Result) (q : Sg M A P c₁ (k r) fs s) : Sg M A P c (leafOf r) (.ret k h g l c₁ p₁ kp :: fs) s := fun Γ p hc hw => by
  subst hc
  obtain ⟨e, s', hr, he⟩ := q (Γ.goto c₁) p₁ rfl (hw.goto c₁)
  exact ⟨e, s', Runs.pop r hr, he⟩
theorem Sg.again {c' : Code} (hq : c'.quiet = true) (q : Sg M A P c' (M.den c') fs s) : Sg M A P c (.pure (.again c')) fs s := fun Γ p hc hw => by
  subst hc
  obtain ⟨e, s', hr, he⟩ := q (Γ.goto c') p rfl (hw.goto c')
  exact ⟨e, s', Runs.head (c₁ := c') (fun _ _ x => .again hq x) hr, he⟩
theorem Sg.fin (r : Result) (h : P (.ret r) s) : Sg M A P c (leafOf r) [] s := fun Γ p hc _ => ⟨_, s, Runs.leaf r, h⟩
theorem Sg.out {v : Value} {g : Bool} {l : List Value} {k : Resume → Sem Fin} (hfs : splitAtGen fs = none) (h : ∀ p, P (.susp v g l k c p fs) s) : Sg M A P c (.yield v g l k) fs s := fun Γ p hc _ => by
  subst hc
  exact ⟨_, s, Runs.yield' fs hfs, h p⟩
/-- a generator's state goes on -/
def Goes1 (M : Model) (A : Around) (P : End → Shared → Prop) (gs : GenState) (s : Shared) : Prop := match gs with
  | .fresh c => Sg M A P c (M.den c) [] s
  | .suspended k _ c _ fs _ => Sg M A P c (k (.send .none)) fs s
  | _ => False
theorem wake1 {E : Value → Shared → Prop} {g : Nat} {gs : GenState} {l : List Value} {α : Type} {k : GenResult → Sem α} {Q : α → Shared → Prop} (hg : s.gens[g]? = some gs) (hgo : Goes1 M A P gs (s.setGen g .running)) (hq : ∀ e s', P e s' → e.quiet = true)
    (h : ∀ e s₁, P e s₁ → wpAny M A (k e.result) Q E (s₁.setGen g e.genState)) : wpAny M A (.resume g (.send .none) l k) Q E s := fun Γ p hΓ => by
  rw [Sem.wp_resume]
  cases gs with
  | fresh c =>
    obtain ⟨e, s₁, hr, he⟩ := hgo (Γ.wake c p) p rfl (hΓ.wake c p)
    refine ⟨e.result, s₁.setGen g e.genState, ?_, h e s₁ he Γ p hΓ⟩
    unfold Wakes; rw [hg]; exact ⟨e, s₁, hr, hq e s₁ he, rfl, rfl⟩
  | suspended k₀ l₀ c₀ p₀ fs₀ cl =>
    obtain ⟨e, s₁, hr, he⟩ := hgo (Γ.wake c₀ p) p₀ rfl (hΓ.wake c₀ p)
    refine ⟨e.result, s₁.setGen g e.genState, ?_, h e s₁ he Γ p hΓ⟩
    unfold Wakes; rw [hg]; exact ⟨e, s₁, hr, hq e s₁ he, rfl, rfl⟩
  | running => exact hgo.elim
  | finished => exact hgo.elim
end
section
variable {prog : Program} {w : World} {A : Around} {E : Value → Shared → Prop} {s : Shared} {P : End → Shared → Prop}
/-- next of a generator: a value, or its end -/
theorem next_gen {a : Addr} {g : Nat} {gs : GenState} {Q : Option Value → Shared → Prop} (hh : A.handled = none) (hl : s.heap.NoLimit) (hroom : A.depth < recursionLimit) (hg : s.heap.IsGen a g) (hgs : s.gens[g]? = some gs)
    (hgo : Goes1 (model prog w) A.in1 P gs (s.setGen g .running)) (hq : ∀ e s', P e s' → e.quiet = true)
    (hP : ∀ e s₁, P e s₁ → (∃ v gd l k c p fs, e = .susp v gd l k c p fs ∧ Q (some v) (s₁.setGen g e.genState)) ∨
      (e = .ret (.ok (.ret .none)) ∧ ∀ h', (∀ b o, s₁.heap.get? b = some o → h'.get? b = some o) → Q none { s₁.setGen g .finished with heap := h' })) :
    wpAny (model prog w) A (pyNext (.ref a)) Q E s := by
  unfold pyNext
  refine wpAny_bind (wpAny_attempt (wpAny_callSpecial?_slot (name := Str.ofString "__next__") hg.typeIs slot_gen_next (wpAny_call_entry slot_gen_next hg.typeIs entry_gen_next ?_ (args_gen_next _))))
  show wpAny _ A.in1 (Builtin.Generator.genWake (.ref a) (.send .none)) _ _ s
  unfold Builtin.Generator.genWake
  refine wpAny_bind (wpAny_holding (wpAny_genNumber hg (wpAny_bind (wpAny_genState hgs ?_))))
  cases gs with
  | running => exact hgo.elim
  | finished => exact hgo.elim
  | _ =>
    refine wpAny_bind (wpAny_roomToWake hl hroom ?_)
    show wpAny _ A.in1 (.resume g (.send .none) [] _) _ _ s
    refine wake1 hgs hgo hq fun e s₁ he => ?_
    rcases hP e s₁ he with ⟨v, gd, l, k, c, p, fs, rfl, hv⟩ | ⟨rfl, hn⟩
    · exact wpAny_pure ⟨v, rfl, wpAny_pure hv⟩
    · show wpAny _ A.in1 (newExc (.type "StopIteration") [] >>= _) _ _ _
      refine wpAny_bind ?_
      simp only [newExc, newTuple]
      refine wpAny_bind (wpAny_newObj_type ?_ (by size_fits))
      refine wpAny_bind (m := firstArgMember _ _) (wpAny_of_eq (a := Value.none) (by first | rfl | (simp only [firstArgMember]; rfl)) ?_)
      refine wpAny_newObj_type ?_ (by size_fits)
      simp only [raiseNew]
      refine wpAny_bind (wpAny_bind (wpAny_handled ?_))
      rw [show A.in1.handled = none from hh]
      refine wpAny_throw ?_
      refine wpAny_bind (wpAny_isInstance (T := "StopIteration") (b := true) ⟨_, Heap.get?_push_size _ rfl, rfl⟩ isSubtype_stop ?_)
      exact wpAny_pure (hn _ fun b o hb => Heap.get?_push_of_some _ (Heap.get?_push_of_some _ hb))
end
end Mine
end
section
open PySem PySem.W PyProof.Rows PySem.Calls
set_option maxRecDepth 100000
namespace Mine
/-- what others may do while a generator sleeps -/
def Cpt (base : Heap) (okc F : Addr → Prop) (h h₁ : Heap) : Prop := ∃ W : Addr → Prop, ExtBut base W h h₁ ∧ (∀ b, h₁.get? b = none → h.get? b = none) ∧ (∀ a, F a → ¬ W a) ∧ ∀ a, okc a → IsNode h a → ¬ W a
/-- a generator's stop: a value, or the end -/
def GStop (G : Gr) (okc C : Addr → Prop) (g : Nat) (s₁ : Shared) (F : Addr → Prop) (d : Option D) (go : GenState → (Addr → Prop) → Shared → Prop) (e : End) (s' : Shared) : Prop :=
  MvI G.base F (· = g) (s₁.setGen g .running) s' ∧ (s'.gens[g]?).isSome = true ∧ e.quiet = true ∧ match d with
    | none => e = .ret (.ok (.ret .none))
    | some d => (∃ v gd l k c p fs, e = .susp v gd l k c p fs ∧ Rep (fun b => okc b ∨ s₁.heap.get? b = none ∨ F b) s'.heap v d) ∧
      ∃ F', (∀ a, C a → F' a) ∧ (∀ a, F' a → F a ∨ s₁.heap.get? a = none) ∧ (∀ a, F' a → ¬ IsNode s'.heap a ∧ (s'.heap.get? a).isSome = true) ∧ go e.genState F' s'
def GenGo (G : Gr) (A : Around) (okc C : Addr → Prop) (g : Nat) : List D → GenState → (Addr → Prop) → Shared → Prop
  | [], gs, F, s => ∀ s₁, Cpt G.base okc F s.heap s₁.heap → G.base.StaysIn s₁.heap → (s₁.gens[g]?).isSome = true → Goes1 G.M A (GStop G okc C g s₁ F none fun _ _ _ => False) gs (s₁.setGen g .running)
  | d :: r, gs, F, s => ∀ s₁, Cpt G.base okc F s.heap s₁.heap → G.base.StaysIn s₁.heap → (s₁.gens[g]?).isSome = true → Goes1 G.M A (GStop G okc C g s₁ F (some d) (GenGo G A okc C g r)) gs (s₁.setGen g .running)
def GPost (G : Gr) (A : Around) (okc C : Addr → Prop) (g : Nat) (ds : List D) (s₁ : Shared) (F : Addr → Prop) : End → Shared → Prop := match ds with
  | [] => GStop G okc C g s₁ F none fun _ _ _ => False
  | d :: r => GStop G okc C g s₁ F (some d) (GenGo G A okc C g r)
theorem genGo_iff {G : Gr} {A : Around} {okc C : Addr → Prop} {g : Nat} {ds : List D} {gs : GenState} {F : Addr → Prop} {s : Shared} :
    GenGo G A okc C g ds gs F s ↔ ∀ s₁, Cpt G.base okc F s.heap s₁.heap → G.base.StaysIn s₁.heap → (s₁.gens[g]?).isSome = true → Goes1 G.M A (GPost G A okc C g ds s₁ F) gs (s₁.setGen g .running) := by
  cases ds <;> exact Iff.rfl
theorem node_fwd {base : Heap} {W : Addr → Prop} {h h' : Heap} {a : Addr} (x : ExtBut base W h h') (w : ¬ W a) (nd : IsNode h a) : IsNode h' a := by
  cases nd with
  | list l => obtain ⟨o, e, r⟩ := l; exact .list ⟨o, node_keep x (.list ⟨o, e, r⟩) w e, r⟩
  | tup l => obtain ⟨o, e, r⟩ := l; exact .tup ⟨o, node_keep x (.tup ⟨o, e, r⟩) w e, r⟩
  | slice e c d => exact .slice (node_keep x (.slice e c d) w e) c d
  | rng e => exact .rng (node_keep x (.rng e) w e)
theorem node_back {base : Heap} {W : Addr → Prop} {h h' : Heap} {a : Addr} (x : ExtBut base W h h') (w : ¬ W a) (hs : (h.get? a).isSome = true) (nd : IsNode h' a) : IsNode h a := by
  obtain ⟨o, e⟩ := Option.isSome_iff_exists.mp hs
  obtain ⟨o', e', c', d', k'⟩ := x a o w e
  cases nd with
  | list l => obtain ⟨o₂, e₂, c₂, n, d₂⟩ := l; rw [e'] at e₂; cases e₂; exact .list ⟨o, e, c'.symm.trans c₂, n, d'.symm.trans d₂⟩
  | tup l => obtain ⟨o₂, e₂, c₂, n, d₂⟩ := l; rw [e'] at e₂; cases e₂; exact .tup ⟨o, e, c'.symm.trans c₂, n, d'.symm.trans d₂⟩
  | slice e₂ c₂ d₂ => rw [e'] at e₂; cases e₂; exact .slice e (c'.symm.trans c₂) (d'.symm.trans d₂)
  | rng e₂ =>
    unfold IsRange at e₂
    rw [e'] at e₂; cases e₂
    have := k' (.inr (by rw [← d']; rfl))
    exact .rng (by unfold IsRange; rw [e, ← this])
theorem ExtBut.weak {base : Heap} {W W' : Addr → Prop} {h h' : Heap} (x : ExtBut base W h h') (k : ∀ a, W a → W' a) : ExtBut base W' h h' := fun b o w e => x b o (fun q => w (k b q)) e
theorem ExtBut.trans {base : Heap} {W : Addr → Prop} {h h' h'' : Heap} (x : ExtBut base W h h') (y : ExtBut base W h' h'') : ExtBut base W h h'' := fun b o w e => by
  obtain ⟨o', e', c', d', k'⟩ := x b o w e
  obtain ⟨o'', e'', c'', d'', k''⟩ := y b o' w e'
  refine ⟨o'', e'', c''.trans c', d''.trans d', fun q => ?_⟩
  have := k' q; subst this
  exact k'' q
theorem Cpt.refl {base : Heap} {okc F : Addr → Prop} {h : Heap} : Cpt base okc F h h := ⟨fun _ => False, fun b o _ e => ⟨o, e, rfl, rfl, fun _ => rfl⟩, fun _ e => e, fun _ _ h => h, fun _ _ _ h => h⟩
theorem Cpt.trans {base : Heap} {okc F : Addr → Prop} {a b c : Heap} (x : Cpt base okc F a b) (y : Cpt base okc F b c) : Cpt base okc F a c := by
  obtain ⟨W, m, q, h1, h2⟩ := x
  obtain ⟨W', m', q', h1', h2'⟩ := y
  refine ⟨fun p => W p ∨ W' p, (m.weak fun p h => .inl h).trans (m'.weak fun p h => .inr h), fun p e => q p (q' p e), fun p hp h => h.elim (h1 p hp) (h1' p hp), fun p hp nd h => ?_⟩
  rcases h with h | h
  · exact h2 p hp nd h
  · exact h2' p hp (node_fwd m (h2 p hp nd) nd) h
theorem GenGo.cpt {G : Gr} {A : Around} {okc C : Addr → Prop} {g : Nat} {ds : List D} {gs : GenState} {F : Addr → Prop} {s s' : Shared} (h : GenGo G A okc C g ds gs F s) (x : Cpt G.base okc F s.heap s'.heap) : GenGo G A okc C g ds gs F s' :=
  genGo_iff.mpr fun s₁ y => genGo_iff.mp h s₁ (x.trans y)
theorem setGen_get {s : Shared} {g : Nat} {x : GenState} (h : (s.gens[g]?).isSome = true) : (s.setGen g x).gens[g]? = some x := by
  obtain ⟨y, e⟩ := Option.isSome_iff_exists.mp h
  obtain ⟨hi, _⟩ := Array.getElem?_eq_some_iff.mp e
  show (s.gens.setIfInBounds g x)[g]? = _
  simp [hi]
theorem setGen_ne {s : Shared} {g i : Nat} {x : GenState} (h : i ≠ g) : (s.setGen g x).gens[i]? = s.gens[i]? := by
  show (s.gens.setIfInBounds g x)[i]? = _
  rw [Array.getElem?_setIfInBounds_ne (Ne.symm h)]
theorem setGen_bare {s : Shared} {g : Nat} {x : GenState} (h : ∀ y ∈ s.gens, y.bare = true) (hx : x.bare = true) : ∀ y ∈ (s.setGen g x).gens, y.bare = true := fun y hy => by
  obtain ⟨i, hi, rfl⟩ := Array.mem_iff_getElem.mp hy
  by_cases e : i = g
  · subst e
    have hi' : i < s.gens.size := by simpa [Shared.setGen] using hi
    have : (s.gens.setIfInBounds i x)[i]? = some x := by simp [hi']
    have h2 := Array.getElem?_eq_getElem (xs := (s.setGen i x).gens) hi
    have h3 : (s.setGen i x).gens[i]? = some x := this
    rw [h3] at h2; rw [← Option.some.inj h2]; exact hx
  · have h2 := Array.getElem?_eq_getElem (xs := (s.setGen g x).gens) hi
    rw [setGen_ne e] at h2
    exact h _ (Array.mem_of_getElem? h2)
theorem bare_of_quiet {e : End} (h : e.quiet = true) : e.genState.bare = true := End.bare_of_quiet h
section
variable {G : Gr} {n : Nat} {env : Env} {σ : St} {sc : Scope}
/-- the state of a generator that is gone through -/
def GenSx (G : Gr) (A : Around) (okc C : Addr → Prop) (I : Addr) (g : Nat) (ds : List D) (i : Nat) (FI : Addr → Prop) (s : Shared) : Prop :=
  ∃ F : Addr → Prop, FI = (fun a => F a ∨ a = I) ∧ (∀ a, C a → F a) ∧ ¬ F I ∧ s.heap.IsGen I g ∧ (∀ a, F a → ¬ IsNode s.heap a ∧ (s.heap.get? a).isSome = true) ∧ ∃ gs, s.gens[g]? = some gs ∧ GenGo G A okc C g (ds.drop i) gs F s
theorem isGen_node {h : Heap} {I : Addr} {g : Nat} (q : h.IsGen I g) : ¬ IsNode h I ∧ (h.get? I).isSome = true := by
  obtain ⟨o, nm, qn, e, c, d, sl⟩ := q
  exact ⟨not_node e c rfl, by rw [e]; rfl⟩
theorem isGen_mv {base : Heap} {W : Addr → Prop} {h h' : Heap} {I : Addr} {g : Nat} (x : ExtBut base W h h') (w : ¬ W I) (q : h.IsGen I g) : h'.IsGen I g := by
  obtain ⟨o, nm, qn, e, c, d, sl⟩ := q
  obtain ⟨o', e', c', d', k'⟩ := x I o w e
  have : o' = o := k' (.inr (by rw [d]; rfl))
  subst this
  exact ⟨o', nm, qn, e', c, d, sl⟩
theorem MvI.unset {base : Heap} {F : Addr → Prop} {g : Nat} {s s₁ : Shared} {x : GenState} (m : MvI base F (· = g) (s.setGen g .running) s₁) (hx : x.bare = true) : MvI base F (· = g) s (s₁.setGen g x) :=
  ⟨m.ext, m.dom, m.os, fun i y hi e => by rw [setGen_ne hi]; exact m.gkeep i y hi (by rw [setGen_ne hi]; exact e), fun q => setGen_bare (m.gbare (setGen_bare q rfl)) hx⟩
theorem MvI.weak {base : Heap} {F F' : Addr → Prop} {wg : Nat → Prop} {s s' : Shared} (m : MvI base F wg s s') (h : ∀ a, F a → F' a) : MvI base F' wg s s' := ⟨m.ext.weak h, fun b w e => m.dom b (fun q => w (h b q)) e, m.os, m.gkeep, m.gbare⟩
theorem MvI.heap {base : Heap} {F : Addr → Prop} {wg : Nat → Prop} {s s' : Shared} {h' : Heap} (m : MvI base F wg s s') (k : ∀ b o, s'.heap.get? b = some o → h'.get? b = some o) : MvI base F wg s { s' with heap := h' } :=
  ⟨fun b o w e => by
    obtain ⟨o', e', r⟩ := m.ext b o w e
    exact ⟨o', k b o' e', r⟩, fun b w e => m.dom b w (by
    cases q : s'.heap.get? b with
    | none => rfl
    | some o => have := k b o q; rw [show h'.get? b = none from e] at this; cases this), m.os, m.gkeep, m.gbare⟩
theorem ItrD.gen {A : Around} {okc C : Addr → Prop} {target : Expr} {I : Addr} {g : Nat} {ds : List D} (hh : A.handled = none) (hroom : A.depth < recursionLimit) : ItrD G A okc target I ds (fun a => C a ∨ a = I) (· = g) (GenSx G A.in1 okc C I g ds) where
  core := fun i FI s hs a ha => by
    obtain ⟨F, rfl, hC, _⟩ := hs
    exact ha.imp (hC a) id
  frame := fun i FI s s' W hs mv hf hn => by
    obtain ⟨F, rfl, hC, h0, h1, h3, gs, h4, h5⟩ := hs
    refine ⟨F, rfl, hC, h0, isGen_mv mv.ext (hf I (.inr rfl)) h1, fun a ha => ⟨fun nd => (h3 a ha).1 (node_back mv.ext (hf a (.inl ha)) (h3 a ha).2 nd), ?_⟩, gs, mv.gens.keep g gs h4, h5.cpt ⟨W, mv.ext, mv.dom, fun a ha => hf a (.inl ha), hn⟩⟩
    cases q : s'.heap.get? a with
    | some _ => rfl
    | none => have := (h3 a ha).2; rw [mv.dom a q] at this; cases this
  node := fun i FI s a hs ha => by
    obtain ⟨F, rfl, hC, h0, h1, h3, _⟩ := hs
    rcases ha with ha | rfl
    · exact h3 a ha
    · exact isGen_node h1
  item := fun i FI d s E ok' hd hs kb hok hFok hfr => by
    obtain ⟨F, rfl, hC, h0, h1, h3, gs, h4, h5⟩ := hs
    have hdrop : ds.drop i = d :: ds.drop (i + 1) := by
      obtain ⟨hi, rfl⟩ := List.getElem?_eq_some_iff.mp hd
      exact List.drop_eq_getElem_cons hi
    rw [hdrop] at h5
    refine next_gen hh (G.nolimit.keeps kb) hroom h1 h4 (h5 s .refl kb (by rw [h4]; rfl)) (fun e s' q => q.2.2.1) fun e s₁ q => .inl ?_
    obtain ⟨mi, gin, hq, ⟨v, gd, l, k, c, p, fs, rfl, rp⟩, F', f1, f2, f3, go⟩ := q
    have mu := mi.unset (x := (End.susp v gd l k c p fs).genState) (bare_of_quiet hq)
    have hgen : (s₁.setGen g (End.susp v gd l k c p fs).genState).heap.IsGen I g := isGen_mv mi.ext h0 h1
    have hF'I : ¬ F' I := fun z => (f2 I z).elim h0 fun z => by have := (isGen_node h1).2; rw [z] at this; cases this
    refine ⟨v, gd, l, k, c, p, fs, rfl, v, rfl, ?_⟩
    obtain ⟨o, nm, qn, e, c', d', sl⟩ := id hgen
    refine letOwned_plain (o := o) e c' (by decide) ⟨?_, mu.weak fun a => .inl, fun a => F' a ∨ a = I, ⟨F', rfl, f1, hF'I, hgen, f3, _, setGen_get gin, go.cpt .refl⟩, fun a ha => ?_⟩
    · exact rp.weak fun b q => q.elim (hok b) fun z => z.elim (fun z => hfr b z) fun z => hFok b (.inl z)
    · rcases ha with ha | ha
      · exact (f2 a ha).imp .inl id
      · exact .inl (.inr ha)
  done := fun FI s E hs kb => by
    obtain ⟨F, rfl, hC, h0, h1, h3, gs, h4, h5⟩ := hs
    rw [List.drop_length] at h5
    refine next_gen hh (G.nolimit.keeps kb) hroom h1 h4 (h5 s .refl kb (by rw [h4]; rfl)) (fun e s' q => q.2.2.1) fun e s₁ q => .inr ?_
    obtain ⟨mi, gin, hq, rfl⟩ := q
    refine ⟨rfl, fun h' hk => ⟨rfl, ?_⟩⟩
    exact ((mi.unset (x := .finished) rfl).weak fun a => .inl).heap hk
end
end Mine
end
section
open PySem PySem.W PyProof.Rows PySem.Calls
set_option maxRecDepth 100000
namespace Mine
section
variable {G : Gr} {n : Nat} {env : Env} {σ : St} {sc : Scope} {A : Around} {okc : Addr → Prop} {g : Nat} {c : Code} {fs : List PySem.Frame} {FR : Addr → Prop} {Res : Heap → Prop} {ds : List D}
  {K : Flow → Sem Fin} {H : Value → Sem Fin} {gd : Bool → Bool} {lv : List Value → List Value}
def Stable (G : Gr) (okc FR : Addr → Prop) (Res : Heap → Prop) : Prop := ∀ h h' W, Res h → ExtBut G.base W h h' → (∀ a, FR a → ¬ W a) → (∀ a, okc a → IsNode h a → ¬ W a) → Res h'
/-- a generator's frame at work -/
structure Run (G : Gr) (okc : Addr → Prop) (g : Nat) (env : Env) (FR : Addr → Prop) (Res : Heap → Prop) (s₁ : Shared) (F₁ F : Addr → Prop) (σ : St) (s : Shared) : Prop where
  start : G.base.StaysIn s₁.heap
  base : G.base.StaysIn s.heap
  inv : Inv G.base (fun b => okc b ∨ s₁.heap.get? b = none ∨ F₁ b) env σ s.heap
  mv : MvI G.base F₁ (· = g) (s₁.setGen g .running) s
  up : ∀ a, FrW env a → F a
  dn : ∀ a, F a → F₁ a ∨ s₁.heap.get? a = none
  fr : ∀ a, FrW env a → F₁ a
  off : ∀ a, F₁ a → G.base.get? a = none
  nd : ∀ a, F a → ¬ IsNode s.heap a ∧ (s.heap.get? a).isSome = true
  sub : ∀ a, FR a → F a ∧ ¬ FrW env a
  res : Res s.heap
  own : owned σ = []
  gin : (s.gens[g]?).isSome = true
def Gs (G : Gr) (A : Around) (okc : Addr → Prop) (g : Nat) (env : Env) (c : Code) (fs : List PySem.Frame) (FR : Addr → Prop) (Res : Heap → Prop) (σ : St) (t : Sem Fin) (ds : List D) : Prop :=
  ∀ s₁ F₁ F s, Run G okc g env FR Res s₁ F₁ F σ s → Sg G.M A (GPost G A okc (FrW env) g ds s₁ F₁) c t fs s
theorem MvI.thenMv {base : Heap} {F W : Addr → Prop} {wg : Nat → Prop} {s s₁ s₂ : Shared} (i : MvI base F wg s s₁) (m : Mv base W s₁ s₂) (h : ∀ a, W a → F a ∨ s.heap.get? a = none) : MvI base F wg s s₂ := by
  refine ⟨fun b o w e => ?_, fun b w e => i.dom b w (m.dom b e), m.os.trans i.os, fun j x hj e => m.gens.keep j x (i.gkeep j x hj e), fun q => m.gens.bare (i.gbare q)⟩
  obtain ⟨o', e', c', d', k'⟩ := i.ext b o w e
  obtain ⟨o'', e'', c'', d'', k''⟩ := m.ext b o' (fun z => (h b z).elim w fun z => by rw [z] at e; cases e) e'
  refine ⟨o'', e'', c''.trans c', d''.trans d', fun q => ?_⟩
  have := k' q; subst this
  exact k'' q
/-- a step of the frame's own -/
theorem Run.step {s₁ s s' : Shared} {F₁ F : Addr → Prop} {σ' : St} (r : Run G okc g env FR Res s₁ F₁ F σ s) (st : Stable G okc FR Res) (i : Inv G.base (fun b => okc b ∨ s₁.heap.get? b = none ∨ F₁ b) env σ' s'.heap) (m : Mv G.base (Wr env σ) s s') (k : G.base.StaysIn s'.heap) (o : owned σ' = []) :
    Run G okc g env FR Res s₁ F₁ F σ' s' := by
  have hw : ∀ a, Wr env σ a → FrW env a := fun a w => by
    rcases w with w | w
    · exact w
    · rw [r.own] at w; cases w
  refine ⟨r.start, k, i, r.mv.thenMv m fun a w => .inl (r.fr a (hw a w)), r.up, r.dn, r.fr, r.off, fun a ha => ?_, r.sub, ?_, o, ?_⟩
  · have hs : (s'.heap.get? a).isSome = true := by
      cases q : s'.heap.get? a with
      | some _ => rfl
      | none => have := (r.nd a ha).2; rw [m.dom a q] at this; cases this
    refine ⟨fun nd => ?_, hs⟩
    by_cases hf : FrW env a
    · exact node_not_frame i.frame nd hf
    · exact (r.nd a ha).1 (node_back m.ext (fun w => hf (hw a w)) (r.nd a ha).2 nd)
  · exact st s.heap s'.heap _ r.res m.ext (fun a ha w => (r.sub a ha).2 (hw a w)) fun a _ nd w => node_not_frame r.inv.frame nd (hw a w)
  · obtain ⟨x, hx⟩ := Option.isSome_iff_exists.mp r.gin
    rw [m.gens.keep g x hx]; rfl
theorem Run.stp {s₁ s s' : Shared} {F₁ F : Addr → Prop} (r : Run G okc g env FR Res s₁ F₁ F σ s) (st : Stable G okc FR Res) (x : Stp G.base s s') : Run G okc g env FR Res s₁ F₁ F σ s' :=
  r.step st (r.inv.ext x.ext) x.mv (x.ext.base r.base) r.own
theorem Gs.nil (h : Gs G A okc g env c fs FR Res σ (K .next) ds) : Gs G A okc g env c fs FR Res σ ((execs [] env).wrap K H gd lv) ds := h
theorem Gs.cons {st : Stmt} {rest : List Stmt} (h : Gs G A okc g env c fs FR Res σ ((exec st env).wrap (fun f => match f with | .next => (execs rest env).wrap K H gd lv | f => K f) H gd lv) ds) :
    Gs G A okc g env c fs FR Res σ ((execs (st :: rest) env).wrap K H gd lv) ds := by
  rw [execs_cons_wrap]; exact h
theorem Gs.stmt {st : Stmt} (hr : Room n (A.over c fs)) (hst : Stable G okc FR Res) (h : Ex1 G n env σ st fun fl σ' => fl = .next ∧ owned σ' = [] ∧ Gs G A okc g env c fs FR Res σ' (K .next) ds) : Gs G A okc g env c fs FR Res σ ((exec st env).wrap K H gd lv) ds := fun s₁ F₁ F s r =>
  .wrap (wpAny_mono (h _ _ s _ hr r.base r.inv) (fun f s' a => by
    obtain ⟨fl, σ', ⟨rfl, o, q⟩, fi, i, m, k, _⟩ := a
    cases f <;> first | exact fi.elim | skip
    exact q s₁ F₁ F s' (r.step hst i m k o)) fun _ _ x => x)
theorem Gs.assign {x : Str} {e : Expr} {p pos : Pos} {d : D} (hr : Room n (A.over c fs)) (hst : Stable G okc FR Res) (h : Ev G n env σ e d) (hx : Storable env x) (ho : owned σ = []) (q : Gs G A okc g env c fs FR Res (setS x (.val d) σ) (K .next) ds) (hs : swapsWith e (some (.Name x p)) pos.line env = pure false := by rfl) :
    Gs G A okc g env c fs FR Res σ ((exec (.Assign [.Name x p] e pos) env).wrap K H gd lv) ds :=
  .stmt hr hst ((Ex1.assign h hx hs).mono fun fl σ' z => by obtain ⟨rfl, rfl⟩ := z; exact ⟨rfl, owned_setS_nil ho, q⟩)
theorem Gs.ite {t : Expr} {a b : List Stmt} {pos : Pos} {x : Bool} (hr : Room n (A.over c fs)) (hst : Stable G okc FR Res) (h : Tr G n env σ t x) (ha : x = true → Gs G A okc g env c fs FR Res σ ((execs a env).wrap K H gd lv) ds) (hb : x = false → Gs G A okc g env c fs FR Res σ ((execs b env).wrap K H gd lv) ds) :
    Gs G A okc g env c fs FR Res σ ((exec (.If t a b pos) env).wrap K H gd lv) ds := fun s₁ F₁ F s r => by
  rw [exec_If]
  show Sg _ _ _ _ (.at pos fun _ => ((isTrue t env (eval t env)) >>= fun y => if y = true then execs a env else execs b env).wrap K H gd lv) _ _
  refine .stand ?_
  rw [Sem.bind_eq_wrap', Sem.wrap_wrap]
  refine .wrap (wpAny_mono (h _ _ s _ hr r.base r.inv) (fun y s' q => ?_) fun _ _ x => x)
  obtain ⟨st, rfl⟩ := q
  have r' := r.stp hst st
  cases y with
  | true => exact ha rfl s₁ F₁ F s' r'
  | false => exact hb rfl s₁ F₁ F s' r'
/-- all that the frame knows is of one piece -/
def Plain : St → Bool
  | [] => true
  | (_, .val d) :: r => Atomic d && Plain r
  | (_, .own _ _) :: _ => false
theorem Plain.get {x : Str} {d : D} : ∀ {σ : St}, Plain σ = true → σ.lookup x = some (.val d) → Atomic d = true
  | (y, .val e) :: r, h, l => by
    rw [Plain, Bool.and_eq_true] at h
    rw [List.lookup_cons] at l
    cases q : x == y with
    | true => rw [q] at l; cases l; exact h.1
    | false => rw [q] at l; exact Plain.get h.2 l
theorem Plain.noOwn {x : Str} {a : Addr} {es : List D} : ∀ {σ : St}, Plain σ = true → σ.lookup x ≠ some (.own a es)
  | [], _ => nofun
  | (y, .val e) :: r, h => by
    rw [Plain, Bool.and_eq_true] at h
    rw [List.lookup_cons]
    cases x == y with
    | true => exact nofun
    | false => exact Plain.noOwn h.2
theorem Plain.owned : ∀ {σ : St}, Plain σ = true → Mine.owned σ = []
  | [], _ => rfl
  | (y, .val e) :: r, h => by rw [Plain, Bool.and_eq_true] at h; exact Plain.owned (σ := r) h.2
theorem Gs.yield {e : Expr} {yp pos : Pos} {d : D} {σ' : St} (hr : Room n (A.over c fs)) (hst : Stable G okc FR Res) (hfs : splitAtGen fs = none) (hgd : gd false = false) (hfg : fs.any Frame.guarded = false) (h : Ev G n env σ e d) (hsub : Sub σ' σ) (hp : Plain σ' = true)
    (hco : env.scope.isCoroutine = false) (q : Gs G A okc g env c fs FR Res σ' (K .next) ds) :
    Gs G A okc g env c fs FR Res σ ((exec (.Expr (.Yield (some e) yp) pos) env).wrap K H gd lv) (d :: ds) := fun s₁ F₁ F s r => by
  rw [exec_Expr env (.Yield (some e) yp) pos (by unfold interactive; rw [r.inv.frame.kind]; rfl) rfl]
  show Sg _ _ _ _ (.at pos fun _ => ((eval e env >>= fun v => (standAt yp >>= fun _ => yieldOut env v)) >>= fun x => dropValue (.Yield (some e) yp) pos x).wrap K H gd lv) _ _
  have hy : ∀ v, yieldOut env v = yieldValue v := fun v => by simp only [yieldOut, hco, Bool.false_eq_true, if_false]
  simp only [hy]
  refine .stand ?_
  rw [Sem.bind_eq_wrap', Sem.bind_eq_wrap', Sem.wrap_wrap, Sem.wrap_wrap]
  refine .wrap (wpAny_mono (h _ _ s _ hr r.base r.inv) (fun v s' p => ?_) fun _ _ x => x)
  obtain ⟨st, rp⟩ := p
  have r' := r.stp hst st
  refine .stand (.out hfs fun pp => ?_)
  refine ⟨r'.mv, r'.gin, by simp [End.quiet, hgd, hfg], ⟨v, _, _, _, _, _, _, rfl, rp.weak fun b q => q.1⟩, F, r'.up, r'.dn, r'.nd, ?_⟩
  refine genGo_iff.mpr fun s₂ hc hb hg => ?_
  show Sg G.M A _ c (K .next) fs (s₂.setGen g .running)
  obtain ⟨W, hx, hdom, hF, hok⟩ := hc
  have hno := Plain.owned hp
  refine q s₂ F F _ ⟨hb, hb, ?_, ⟨fun b o _ e => ⟨o, e, rfl, rfl, fun _ => rfl⟩, fun _ _ e => e, rfl, fun _ _ _ e => e, fun z => z⟩, fun a w => r'.up a w, fun _ z => .inl z, fun a w => r'.up a w, fun a ha => ?_, fun a ha => ?_, r'.sub, hst _ _ W r'.res hx (fun a ha => hF a (r'.sub a ha).1) hok, hno, ?_⟩
  · have hFr : ∀ a, FrW env a → ¬ W a := fun a w => hF a (r'.up a w)
    have i' := r'.inv
    have hh : ∀ y v, Holds env s'.heap y v → Holds env s₂.heap y v := fun y v q => by
      rcases q with ⟨k, mm, hns, rr⟩ | ⟨k, cc, hcc, rr⟩
      · obtain ⟨o, es, ep, e, d, rr'⟩ := hns
        obtain ⟨o', e', _, d', _⟩ := hx _ o (hFr _ (.inl rfl)) e
        exact .inl ⟨k, mm, ⟨o', es, ep, e', d'.trans d, rr'⟩, rr⟩
      · obtain ⟨o, e, d⟩ := rr
        obtain ⟨o', e', _, d', _⟩ := hx _ o (hFr _ (.inr ⟨y, hcc⟩)) e
        exact .inr ⟨k, cc, hcc, o', e', d'.trans d⟩
    refine ⟨⟨i'.frame.kind, ?_, fun y cc q => ?_, i'.frame.apart, i'.frame.away, i'.frame.glob, i'.frame.blt⟩, fun a w => ?_, fun b e => .inr (.inl e), fun y dd l => ?_, fun y a es l => absurd l (Plain.noOwn hp), fun a w => ?_, ?_⟩
    · obtain ⟨mm, o, es, ep, e, d, rr⟩ := i'.frame.ns
      obtain ⟨o', e', _, d', _⟩ := hx _ o (hFr _ (.inl rfl)) e
      exact ⟨mm, o', es, ep, e', d'.trans d, rr⟩
    · obtain ⟨v, o, e, d⟩ := i'.frame.cells y cc q
      obtain ⟨o', e', _, d', _⟩ := hx _ o (hFr _ (.inr ⟨y, q⟩)) e
      exact ⟨v, o', e', d'.trans d⟩
    · rcases w with w | w
      · exact i'.off a (.inl w)
      · rw [hno] at w; cases w
    · obtain ⟨u, p, rr⟩ := i'.vals y dd (hsub.get l)
      exact ⟨u, hh y u p, rr.atomic (Plain.get hp l)⟩
    · rw [hno] at w; cases w
    · rw [hno]; exact List.nodup_nil
  · rcases r'.dn a ha with z | z
    · exact r'.off a z
    · cases q : G.base.get? a with
      | none => rfl
      | some o =>
        rw [r'.start a o q] at z; cases z
  · refine ⟨fun nd => (r'.nd a ha).1 (node_back hx (hF a ha) (r'.nd a ha).2 nd), ?_⟩
    cases q : s₂.heap.get? a with
    | some _ => exact (by show (s₂.heap.get? a).isSome = true; rw [q]; rfl)
    | none => have := (r'.nd a ha).2; rw [hdom a q] at this; cases this
  · rw [setGen_get hg]; rfl
end
end Mine
end
section
open PySem PySem.W PyProof.Rows PySem.Calls
set_option maxRecDepth 100000
namespace Mine
section
variable {G : Gr} {n : Nat} {env : Env} {σ : St} {sc : Scope} {A : Around} {okc : Addr → Prop} {g : Nat} {c : Code} {fs : List PySem.Frame} {FR : Addr → Prop} {Res : Heap → Prop} {ds : List D}
  {K : Flow → Sem Fin} {H : Value → Sem Fin} {gd : Bool → Bool} {lv : List Value → List Value}
theorem Sg.bindw {M : Model} {P : End → Shared → Prop} {s : Shared} {α β : Type} {m : Sem α} {f : α → Sem β} {K : β → Sem Fin} (h : wpAny M (A.over c fs) m (fun a s' => Sg M A P c ((f a).wrap K H gd lv) fs s') (fun x s' => Sg M A P c (H x) fs s') s) :
    Sg M A P c ((m >>= f).wrap K H gd lv) fs s := by
  rw [Sem.bind_eq_wrap', Sem.wrap_wrap]; exact .wrap h
theorem Gs.only {σ₀ : St} {t : Sem Fin} (hs : Sub σ₀ σ) (h : Gs G A okc g env c fs FR Res σ₀ t ds) : Gs G A okc g env c fs FR Res σ t ds := fun s₁ F₁ F s r => by
  have ho : owned σ₀ = [] := List.eq_nil_iff_forall_not_mem.mpr fun a w => by have := hs.owned a w; rw [r.own] at this; cases this
  exact h s₁ F₁ F s ⟨r.start, r.base, r.inv.sub hs (by rw [ho]; exact List.nodup_nil), r.mv, r.up, r.dn, r.fr, r.off, r.nd, r.sub, r.res, ho, r.gin⟩
/-- an iterator that leans on the heap alone -/
structure ItrH (G : Gr) (okc : Addr → Prop) (target : Expr) (I : Addr) (es : List D) (fp : Addr → Prop) (Sx : Nat → Heap → Prop) : Prop where
  itr : ∀ A' : Around, A'.handled = none → Itr G A' okc target I es fp fp (fun _ => False) (fun i s => Sx i s.heap)
  frame : ∀ i h h' W, Sx i h → ExtBut G.base W h h' → (∀ a, fp a → ¬ W a) → (∀ a, okc a → IsNode h a → ¬ W a) → Sx i h'
def EvIA (G : Gr) (n : Nat) (env : Env) (σ : St) (okc : Addr → Prop) (Res : Heap → Prop) (e target : Expr) (es : List D) : Prop := ∀ ok A s E, Room n A → G.base.StaysIn s.heap → Inv G.base ok env σ s.heap → Res s.heap →
  wpAny G.M A (eval e env) (fun x s₁ => wpAny G.M A (pyIter x) (fun it s' => Stp G.base s s' ∧ ∃ I fp Sx, it = .ref I ∧ ItrH G okc target I es fp Sx ∧ Sx 0 s'.heap ∧ ∀ a, fp a → s.heap.get? a = none) E s₁) E s
/-- what a loop's turn may lean on -/
structure Lp (G : Gr) (n : Nat) (A : Around) (okc FR : Addr → Prop) (Res : Heap → Prop) (c : Code) (fs : List PySem.Frame) : Prop where
  room : Room n (A.over c fs)
  stable : Stable G okc FR Res
  split : splitAtGen fs = none
  quiet : fs.any Frame.guarded = false
theorem over_loop {A : Around} {target : Expr} {it : Value} {body : List Stmt} {env : Env} {k : Result → Sem Fin} {gb : Bool} {l : List Value} {c : Code} {p : Pos} {fs : List PySem.Frame} (r : Room n (A.over c fs)) :
    Room n (A.over (.forLoop target it body [] env) (.ret k none gb l c p [] :: fs)) := by
  refine ⟨?_, ?_, ?_⟩
  · have := r.handled
    simpa [Around.over, marksOver, Frame.marks, markOver] using this
  · have := r.depth
    have e : (Code.forLoop target it body [] env).weight = 0 := rfl
    simp only [Around.over, List.map_cons, Frame.where_, frameCount_cons, e] at this ⊢
    omega
  · have := r.units
    have e : (Code.forLoop target it body [] env).cUnits = 0 := rfl
    simp only [Around.over, List.map_cons, Frame.where_, unitsOf_cons, e] at this ⊢
    omega
theorem MvI.thenI {base : Heap} {F fp : Addr → Prop} {wg wg' : Nat → Prop} {s s₁ s₂ : Shared} (i : MvI base F wg s s₁) (m : MvI base fp wg' s₁ s₂) (h : ∀ a, fp a → F a ∨ s.heap.get? a = none) (hg : ∀ g, wg' g → wg g) : MvI base F wg s s₂ := by
  refine ⟨fun b o w e => ?_, fun b w e => ?_, m.os.trans i.os, fun j x hj e => m.gkeep j x (fun q => hj (hg j q)) (i.gkeep j x hj e), fun q => m.gbare (i.gbare q)⟩
  · obtain ⟨o', e', c', d', k'⟩ := i.ext b o w e
    obtain ⟨o'', e'', c'', d'', k''⟩ := m.ext b o' (fun z => (h b z).elim w fun z => by rw [z] at e; cases e) e'
    refine ⟨o'', e'', c''.trans c', d''.trans d', fun q => ?_⟩
    have := k' q; subst this
    exact k'' q
  · by_cases z : fp b
    · exact (h b z).elim (fun q => absurd q w) id
    · exact i.dom b w (m.dom b z e)
theorem Run.offF {s₁ s : Shared} {F₁ F : Addr → Prop} (r : Run G okc g env FR Res s₁ F₁ F σ s) : ∀ a, F a → G.base.get? a = none := fun a ha => by
  rcases r.dn a ha with z | z
  · exact r.off a z
  · cases q : G.base.get? a with
    | none => rfl
    | some o => rw [r.start a o q] at z; cases z
theorem Run.mvI {s₁ s s' : Shared} {F₁ F : Addr → Prop} (r : Run G okc g env FR Res s₁ F₁ F σ s) (mi : MvI G.base FR (fun _ => False) s s') :
    G.base.StaysIn s'.heap ∧ Inv G.base (fun b => okc b ∨ s₁.heap.get? b = none ∨ F₁ b) env σ s'.heap ∧ MvI G.base F₁ (· = g) (s₁.setGen g .running) s' ∧ (s'.gens[g]?).isSome = true := by
  refine ⟨fun b o e => ?_, r.inv.mvI mi (fun a ha w => ?_) (fun a ha => (r.nd a (r.sub a ha).1).1) fun b hb => ?_, r.mv.thenI mi (fun a ha => r.dn a (r.sub a ha).1) fun _ z => z.elim, ?_⟩
  · obtain ⟨o', e', _, _, k'⟩ := mi.ext b o (fun z => by rw [r.offF b (r.sub b z).1] at e; cases e) (r.base b o e)
    rw [e', k' (.inl (by rw [e]; rfl))]
  · rcases w with w | w
    · exact (r.sub a ha).2 w
    · rw [r.own] at w; cases w
  · exact .inr ((r.dn b (r.sub b hb).1).symm)
  · obtain ⟨x, hx⟩ := Option.isSome_iff_exists.mp r.gin
    rw [mi.gkeep g x (fun z => z) hx]; rfl
theorem Gs.forA {ι : Type} {target iter : Expr} {body : List Stmt} {pos : Pos} {es : List D} {f : D → St → St} (S : Nat → ι → St) (J : Nat → ι → Prop) (out : Nat → ι → List D) (p₀ : ι)
    (L : Lp G n A okc (fun _ => False) Res c fs) (hgd : gd false = false) (hJ : J 0 p₀) (h0 : Sub (S 0 p₀) σ) (hso : ∀ i p, owned (S i p) = [])
    (hi : EvIA G n env (S 0 p₀) okc Res iter target es) (ht : ∀ d ∈ es, AssD G n env target d (f d)) (hfo : ∀ d i p, owned (f d (S i p)) = [])
    (turn : ∀ (c' : Code) (fs' : List PySem.Frame) (FR' : Addr → Prop) (Res' : Heap → Prop) (KL : Flow → Sem Fin) (HL : Value → Sem Fin) (i : Nat) (d : D) (p : ι), Lp G n A okc FR' Res' c' fs' → es[i]? = some d → J i p →
      (∀ p', J (i + 1) p' → Gs G A okc g env c' fs' FR' Res' (S (i + 1) p') (KL .next) (out (i + 1) p')) → Gs G A okc g env c' fs' FR' Res' (f d (S i p)) ((execs body env).wrap KL HL id id) (out i p))
    (done : ∀ p, J es.length p → Gs G A okc g env c fs (fun _ => False) Res (S es.length p) (K .next) (out es.length p)) (hRes : ∀ h h' W, Res h → ExtBut G.base W h h' → (∀ a, okc a → IsNode h a → ¬ W a) → Res h')
    (hs : ∀ x, foldedSetIterable iter env x = pure x := by intro _; rfl) :
    Gs G A okc g env c fs (fun _ => False) Res σ ((exec (.For target iter body [] pos) env).wrap K H gd lv) (out 0 p₀) := by
  refine Gs.only h0 fun s₁ F₁ F s r => ?_
  rw [exec_For]
  refine .bindw (wpAny_standAt ?_)
  refine .bindw (wpAny_mono (hi _ _ s _ L.room r.base r.inv r.res) (fun x s₂ q => ?_) fun _ _ x => x)
  refine .bindw (wpAny_of_eq (hs x) ?_)
  refine .bindw (wpAny_standAt ?_)
  refine .bindw (wpAny_holding (wpAny_mono q (fun it s₃ q => ?_) fun _ _ x => x))
  obtain ⟨st, I, fp, Sx, rfl, W, hx0, hfp⟩ := q
  have r₃ := r.stp L.stable st
  show Sg _ _ _ _ (.call (.forLoop target (.ref I) body [] env) none (gd false) (lv []) _) _ _
  refine .enter fun pp => ?_
  generalize hc' : Code.forLoop target (.ref I) body [] env = c'
  generalize hfs' : (PySem.Frame.ret _ none (gd false) (lv []) c pp []) :: fs = fs'
  have room' : Room n (A.over c' fs') := by rw [← hc', ← hfs']; exact over_loop L.room
  have split' : splitAtGen fs' = none := by rw [← hfs']; show (splitAtGen fs).map _ = none; rw [L.split]; rfl
  have quiet' : fs'.any Frame.guarded = false := by rw [← hfs']; show (gd false || fs.any Frame.guarded) = false; rw [hgd, L.quiet]; rfl
  have stab' : ∀ j, Stable G okc fp (fun h => Sx j h ∧ Res h) := fun j h h' V q e1 e2 e3 => ⟨W.frame j h h' V q.1 e1 e2 e3, hRes h h' V q.2 e1 e3⟩
  have hA' : ∀ j, Lp G n A okc fp (fun h => Sx j h ∧ Res h) c' fs' := fun j => ⟨room', stab' j, split', quiet'⟩
  have It := W.itr (A.over c' fs') room'.handled
  -- the turns, from the last
  have loop : ∀ m i p, es.length - i = m → i ≤ es.length → J i p → Gs G A okc g env c' fs' fp (fun h => Sx i h ∧ Res h) (S i p) (G.M.den c') (out i p) := by
    intro m
    induction m with
    | zero =>
      intro i p hm hi' hj s₁ F₁ F s r
      have hil : i = es.length := by omega
      subst hil
      rw [← hc']
      show Sg _ _ _ _ ((forTurn target (.ref I) body [] env).onRaise (fun x => do noteFrame x env; theTreesLotGoes x)) _ _
      rw [Sem.onRaise_eq_wrap]
      unfold forTurn
      rw [hc']
      refine .bindw (wpAny_standAt ?_)
      refine .bindw (wpAny_onRaise (wpAny_mono (It.done s (fun _ _ => False) r.res.1 r.base) (fun r' s' q => ?_) fun _ _ f => f.elim))
      obtain ⟨rfl, mi⟩ := q
      show Sg _ _ _ _ (.pure (.again (.block [] env))) _ _
      refine .again rfl ?_
      show Sg _ _ _ _ (leafOf (.ok .next)) _ _
      rw [← hfs']
      refine .back (.ok .next) ?_
      -- the loop is left: the iterator's objects are let go
      obtain ⟨b', i', m', g'⟩ := r.mvI mi
      refine done p hj s₁ F₁ (FrW env) s' ⟨r.start, b', i', m', fun _ w => w, fun a w => .inl (r.fr a w), r.fr, r.off, fun a w => ⟨fun nd => node_not_frame i'.frame nd w, ?_⟩, nofun, hRes _ _ fp r.res.2 mi.ext (fun a _ nd z => (r.nd a (r.sub a z).1).1 nd), r.own, g'⟩
      rcases w with rfl | ⟨x, w⟩
      · obtain ⟨mm, o, _, _, e, _⟩ := i'.frame.ns; rw [e]; rfl
      · obtain ⟨v, o, e, _⟩ := i'.frame.cells x a w; rw [e]; rfl
    | succ m ih =>
      intro i p hm hi' hj s₁ F₁ F s r
      have hlt : i < es.length := by omega
      have hd : es[i]? = some es[i] := List.getElem?_eq_getElem hlt
      rw [← hc']
      show Sg _ _ _ _ ((forTurn target (.ref I) body [] env).onRaise (fun x => do noteFrame x env; theTreesLotGoes x)) _ _
      rw [Sem.onRaise_eq_wrap]
      unfold forTurn
      rw [hc']
      refine .bindw (wpAny_standAt ?_)
      have fr : FreshOk (okO (fun b => okc b ∨ s₁.heap.get? b = none ∨ F₁ b) (S i p)) s.heap := r.inv.freshO
      refine .bindw (wpAny_onRaise (wpAny_mono (It.item i es[i] s (fun _ _ => False) (okO (fun b => okc b ∨ s₁.heap.get? b = none ∨ F₁ b) (S i p)) hd r.res.1 r.base (fun a q => ⟨.inl q, by rw [hso]; simp⟩) fr) (fun r' s' q => ?_) fun _ _ f => f.elim))
      obtain ⟨v, rfl, q⟩ := q
      show Sg _ _ _ _ ((letOwnedTupleGo target (.ref I) v >>= fun _ => PySem.assign target env v >>= fun _ => execs body env >>= fun fl => match fl with
        | .next | .cont => again c'
        | .brk => pure (.done .next)
        | .ret v => pure (.done (.ret v))).wrap .pure _ id id) _ _
      refine .bindw (wpAny_mono q (fun _ s₄ q => ?_) fun _ _ f => f.elim)
      obtain ⟨rp, hSx', mi⟩ := q
      obtain ⟨b', i', m', g'⟩ := r.mvI mi
      have nd' : ∀ a, F a → ¬ IsNode s₄.heap a ∧ (s₄.heap.get? a).isSome = true := fun a ha => by
        by_cases z : fp a
        · exact It.node (i + 1) s₄ a hSx' z
        · refine ⟨fun nd => (r.nd a ha).1 (node_back mi.ext z (r.nd a ha).2 nd), ?_⟩
          cases q : s₄.heap.get? a with
          | some _ => rfl
          | none => have := (r.nd a ha).2; rw [mi.dom a z q] at this; cases this
      have r₄ : Run G okc g env fp (fun h => Sx (i + 1) h ∧ Res h) s₁ F₁ F (S i p) s₄ :=
        ⟨r.start, b', i', m', r.up, r.dn, r.fr, r.off, nd', r.sub, ⟨hSx', hRes _ _ fp r.res.2 mi.ext fun a _ nd z => (r.nd a (r.sub a z).1).1 nd⟩, r.own, g'⟩
      refine .bindw (wpAny_mono (ht es[i] (List.getElem_mem hlt) (S i p) _ _ s₄ _ v room' b' i' rp) (fun _ s₅ q => ?_) fun _ _ x => x)
      obtain ⟨i₅, m₅, o₅⟩ := q
      have b₅ : G.base.StaysIn s₅.heap := m₅.base b' i'.off
      have r₅ := r₄.step (stab' (i + 1)) i₅ m₅ b₅ (hfo _ _ _)
      rw [Sem.bind_eq_wrap', Sem.wrap_wrap]
      refine turn c' fs' fp (fun h => Sx (i + 1) h ∧ Res h) (fun f => (match f with
        | .next | .cont => again c'
        | .brk => pure (.done .next)
        | .ret v => pure (.done (.ret v)) : Sem Fin).wrap .pure _ id id) _ i es[i] p (hA' (i + 1)) hd hj (fun p' hj' => ?_) s₁ F₁ F s₅ r₅
      intro s₁ F₁ F s r
      show Sg _ _ _ _ (.pure (.again c')) _ _
      exact .again (by rw [← hc']; rfl) (ih (i + 1) p' (by omega) hlt hj' s₁ F₁ F s r)
  refine loop es.length 0 p₀ rfl (Nat.zero_le _) hJ s₁ F₁ (fun a => F a ∨ fp a) s₃ ⟨r₃.start, r₃.base, r₃.inv, r₃.mv, fun a w => .inl (r₃.up a w), fun a ha => ?_, r₃.fr, r₃.off, fun a ha => ?_, fun a ha => ⟨.inr ha, fun w => fresh_not_wr r.inv (hfp a ha) (.inl w)⟩, ⟨hx0, r₃.res⟩, r₃.own, r₃.gin⟩
  · rcases ha with ha | ha
    · exact r₃.dn a ha
    · by_cases z : F₁ a
      · exact .inl z
      · exact .inr (r.mv.dom a z (hfp a ha))
  · rcases ha with ha | ha
    · exact r₃.nd a ha
    · exact It.node 0 s₃ a hx0 ha
end
end Mine
end
section
open PySem PySem.W PyProof.Rows PySem.Calls
set_option maxRecDepth 100000
namespace Mine
section
variable {G : Gr} {n : Nat} {env : Env} {σ : St} {sc : Scope} {A : Around} {okc : Addr → Prop} {g : Nat} {c : Code} {fs : List PySem.Frame} {FR : Addr → Prop} {Res : Heap → Prop} {ds : List D}
  {K : Flow → Sem Fin} {H : Value → Sem Fin} {gd : Bool → Bool} {lv : List Value → List Value}
theorem ItrH.of_walksT {elts : List Expr} {k : Nat} {pos : Pos} {I : Addr} {es ds' : List D} {vs : List Value} {fpl wrl : List Addr} {m : Nat} {Pt : Nat → Array Value → Prop} {Stt : Nat → Heap → Prop} {Mid : Nat → Addr → Heap → Prop}
    (W : ∀ A' : Around, A'.handled = none → WalksT G.prog G.w A' I fpl wrl m Pt Stt Mid) (hm : m = es.length)
    (hfp : ∀ b ∈ fpl, b ∈ wrl ∨ (okc b ∧ ∀ i h, Stt i h → IsNode h b)) (hobj : ∀ i h, Stt i h → ∀ b ∈ wrl, ∃ o T, h.get? b = some o ∧ o.cls = .type T ∧ isDict o.data = false ∧ nodeType T = false)
    (hP : ∀ i vals d h, es[i]? = some d → Pt i vals → RepAll okc h vs ds' → ∃ es, d = .tuple es ∧ RepAll okc h vals.toList es) :
    ItrH G okc (.Tuple elts k pos) I es (· ∈ wrl) (fun i h => Stt i h ∧ RepAll okc h vs ds') where
  itr := fun A' hA => Itr.of_walksT (W A' hA) hm hfp hobj hP
  frame := fun i h h' V hs x hf hn => by
    refine ⟨(W callerA rfl).frame i h h' hs.1 fun b hb o e => ?_, hs.2.extBut x hn fun _ q _ => q⟩
    rcases hfp b hb with q | ⟨q1, q2⟩
    · obtain ⟨o₁, T, e₁, _, d₁, _⟩ := hobj i _ hs.1 b q
      rw [e] at e₁; cases e₁
      obtain ⟨o', e', _, _, k'⟩ := x b o (hf b q) e
      rw [e', k' (.inr d₁)]
    · have nd := q2 i _ hs.1
      exact node_keep x nd (hn b q1 nd) e
theorem EvIA.enumS {e : Expr} {x : Str} {p pos tp : Pos} {ts : List Expr} {k : Nat} (hk : env.kindOf "enumerate" = some .globalImplicit) (hg : G.mg "enumerate" = none) (h : Ev G n env σ e (.str x))
    (hns : noStar [e] = true := by rfl) (hplain : (backTo pos (starEach [e] env)).any (·.1) = false := by rfl) (he : starEach [e] env = (false, eval e env) :: starEach [] env := by rfl) :
    EvIA G n env σ okc Res (.Call (.Name "enumerate" p) [e] [] pos) (.Tuple ts k tp) (enumL (signs x)) := fun ok A s E r kb i _ => by
  have hb : Ev G n env σ (.Name "enumerate" p) (.raw (.type "enumerate")) := Ev.builtin hk hg boot_enumerate
  refine Call_ (wpAny_mono (hb ok A s E r kb i) (fun v s₁ p₁ => ?_) fun _ _ x => x)
  obtain ⟨st, rp⟩ := p₁
  cases rp
  have kb₁ := st.ext.base kb
  refine callWith_callee (G := G) (.type _) hplain (wpAny_mono ((EvL.cons h .nil he : EvL G n env σ [e] [.str x]) ok A s₁ E pos r kb₁ (i.ext st.ext)) (fun vs s₂ p₂ => ⟨p₂.1.ext.base kb₁, ?_⟩) fun _ _ x => x) hns
  obtain ⟨st₂, rs⟩ := p₂
  cases rs with
  | cons ra rs =>
    cases rs
    cases ra
    rename_i t
    have st12 := st.trans st₂
    refine call_enumerate_str fun h' he' hit hsz hkeep => ?_
    refine wpAny_pyIter_enum he' ?_
    have st₃ : Stp G.base s₂ { s₂ with heap := h' } := ⟨.of_stays hkeep, rfl, .refl⟩
    have D : ∀ A' : Around, A'.handled = none → Draws G.prog G.w A'.in1 s₂.heap.objs.size [s₂.heap.objs.size] x.cps.size (fun i v => ∃ c u, x.cps[i]? = some c ∧ v = .str ⟨#[c]⟩ u) (fun i h => h.IsStrIter s₂.heap.objs.size (strIterType x) x t i) := fun A' hA => by
      unfold strIterType
      cases x.cps.all (· < 128) with
      | true => exact Draws.strAscii (by exact hA) _ x t
      | false => exact Draws.strWide (by exact hA) _ x t
    have hne : s₂.heap.objs.size + 1 ≠ s₂.heap.objs.size := Nat.succ_ne_self _
    have W := fun A' hA => WalksT.enumerateD (A := A') (D A' hA) (s₂.heap.objs.size + 1) hne (by simp) (by simp)
    have hf0 : ∀ a, s₂.heap.objs.size ≤ a → s.heap.get? a = none := fun a ha => by
      cases q : s₂.heap.get? a with
      | none => exact st12.ext.none q
      | some o => exact absurd (Heap.lt_size q) (Nat.not_lt.mpr ha)
    have hT : nodeType (strIterType x) = false := by unfold strIterType; split <;> rfl
    refine ⟨st12.trans st₃, _, _, _, rfl, ItrH.of_walksT (vs := []) (ds' := []) W (by simp [enumL_length, signs]) (fun b hb => .inl ?_) ?_ ?_, ⟨⟨⟨_, he'⟩, hit⟩, .nil⟩, ?_⟩
    · simpa using hb
    · rintro j h ⟨⟨old, e1⟩, e2⟩ b hb
      simp only [List.mem_cons, List.not_mem_nil, or_false] at hb
      rcases hb with rfl | rfl
      · exact ⟨_, _, e1, rfl, rfl, rfl⟩
      · obtain ⟨o, e2, c2, d2⟩ := e2
        exact ⟨o, _, e2, c2, by rw [d2]; rfl, hT⟩
    · rintro j vals d h hd ⟨tk, y, ⟨c, u, hc, rfl⟩, rfl⟩ _
      obtain ⟨e', he2, rfl⟩ := enumL_get.mp hd
      simp [signs] at he2
      obtain ⟨c', hc', rfl⟩ := he2
      rw [hc] at hc'; cases hc'
      exact ⟨_, rfl, .cons (.int _ _) (.cons (.str _ _) .nil)⟩
    · intro a ha
      refine hf0 a ?_
      simp only [List.mem_cons, List.not_mem_nil, or_false] at ha
      rcases ha with rfl | rfl <;> omega
theorem Gs.fin {t : Sem Fin} (ht : t = leafOf (.ok (.ret .none))) : Gs G A okc g env c [] FR Res σ t [] := fun s₁ F₁ F s r => by
  subst ht
  exact .fin _ ⟨r.mv, r.gin, rfl, rfl⟩
/-- a sleeping frame that knows plain values alone wakes as it was -/
theorem Inv.wake {base : Heap} {ok ok' : Addr → Prop} {W : Addr → Prop} {h h' : Heap} (i : Inv base ok env σ h) (hp : Plain σ = true) (x : ExtBut base W h h') (hf : ∀ a, FrW env a → ¬ W a) (fr : FreshOk ok' h') : Inv base ok' env σ h' := by
  have hno := Plain.owned hp
  have hh : ∀ y v, Holds env h y v → Holds env h' y v := fun y v q => by
    rcases q with ⟨k, mm, hns, rr⟩ | ⟨k, cc, hcc, rr⟩
    · obtain ⟨o, es, ep, e, d, rr'⟩ := hns
      obtain ⟨o', e', _, d', _⟩ := x _ o (hf _ (.inl rfl)) e
      exact .inl ⟨k, mm, ⟨o', es, ep, e', d'.trans d, rr'⟩, rr⟩
    · obtain ⟨o, e, d⟩ := rr
      obtain ⟨o', e', _, d', _⟩ := x _ o (hf _ (.inr ⟨y, hcc⟩)) e
      exact .inr ⟨k, cc, hcc, o', e', d'.trans d⟩
  refine ⟨⟨i.frame.kind, ?_, fun y cc q => ?_, i.frame.apart, i.frame.away, i.frame.glob, i.frame.blt⟩, i.off, fr, fun y dd l => ?_, fun y a es l => absurd l (Plain.noOwn hp), fun a w => ?_, i.once⟩
  · obtain ⟨mm, o, es, ep, e, d, rr⟩ := i.frame.ns
    obtain ⟨o', e', _, d', _⟩ := x _ o (hf _ (.inl rfl)) e
    exact ⟨mm, o', es, ep, e', d'.trans d, rr⟩
  · obtain ⟨v, o, e, d⟩ := i.frame.cells y cc q
    obtain ⟨o', e', _, d', _⟩ := x _ o (hf _ (.inr ⟨y, q⟩)) e
    exact ⟨v, o', e', d'.trans d⟩
  · obtain ⟨u, p, rr⟩ := i.vals y dd l
    exact ⟨u, hh y u p, rr.atomic (Plain.get hp l)⟩
  · rw [hno] at w; cases w
theorem room_gen {body : List Stmt} {env' : Env} (r : Room (n + 1) A) : Room n (A.in1.over (.func body env') []) := by
  refine ⟨?_, ?_, ?_⟩
  · exact r.handled
  · have := r.depth
    show A.depth + 0 + 1 + n < _
    omega
  · have := r.units
    show A.units + 1 + 0 + 3 + 30 * n + 500 < _
    omega
/-- the head of a for over a call of a generator of one plain parameter -/
theorem EvID.gen1 {d : DefRec} {a : Addr} {d1 : D} {x : Str} {e target : Expr} {p pos : Pos} (F : FnAt G d a) (hkn : env.kindOf d.name = some .globalImplicit) (h : Ev G (n + 1) env σ e d1) (hat : Atomic d1 = true)
    (body : ∀ env' A' okc g KF HF, FEnv env' d.scope → Room n (A'.over (.func d.body env') []) → KF .next = leafOf (.ok (.ret .none)) →
      Gs G A' okc g env' (.func d.body env') [] (fun _ => False) (fun _ => True) [(x, .val d1)] ((execs d.body env').wrap KF HF id id) ds)
    (hx : d.params.args.map (·.arg) = [x] := by rfl) (hb : ∀ pm code doc v, bindArgs (docDef d.name d.params d.body d.scope pm code doc) ⟨[v], []⟩ = pure [(x, v)] := by intros; rfl)
    (hloc : d.scope.names.lookup x = some .local := by rfl) (hcell : ∀ y ∈ d.scope.names, y.2 ≠ .cell := by decide)
    (hco : d.scope.isCoroutine = false := by rfl) (hgen : d.scope.isGenerator = true := by rfl) (hk : d.scope.kind = .function := by rfl) (hdn : (d.name == ("__debug__" : Str)) = false := by decide)
    (hns : noStar [e] = true := by rfl) (hplain : (backTo pos (starEach [e] env)).any (·.1) = false := by rfl) (he : starEach [e] env = (false, eval e env) :: starEach [] env := by rfl) :
    EvID G (n + 1) env σ (.Call (.Name d.name p) [e] [] pos) target ds := fun ok A s E r kb i => by
  refine Call_ (wpAny_mono ((fn_ev F hkn hdn : Ev G (n + 1) env σ (.Name d.name p) (.raw (.ref a))) ok A s E r kb i) (fun v s₁ p₁ => ?_) fun _ _ x => x)
  obtain ⟨st, rp⟩ := p₁
  cases rp
  have kb₁ := st.ext.base kb
  refine callWith_callee (G := G) F.callee hplain (wpAny_mono ((EvL.cons h .nil he : EvL G (n + 1) env σ [e] [d1]) ok A s₁ E pos r kb₁ (i.ext st.ext)) (fun vs s₂ p₂ => ⟨p₂.1.ext.base kb₁, ?_⟩) fun _ _ x => x) hns
  obtain ⟨st₂, rs⟩ := p₂
  have st12 := st.trans st₂
  have kb₂ := st₂.ext.base kb₁
  cases rs with
  | @cons v _ _ _ ra rs =>
    cases rs
    obtain ⟨o, pm, code, doc, ho, hd, hcd⟩ := F.obj
    refine wpAny_call (codeAny_call_generator (fd := docDef d.name d.params d.body d.scope pm code doc) (body := d.body) (by have := r.depth; omega) (kb₂ _ _ ho) hd hco hgen rfl (hcd.keeps kb₂) ?_)
    refine wpAny_of_eq (hb pm code doc v) ?_
    refine wpAny_newFunctionEnv hcell (fun y hy => by rw [List.mem_singleton.mp hy]; exact hloc) (fun h' hns' hsb => ?_) hk
    dsimp only at hns' hsb ⊢
    generalize henv : newEnv _ _ _ _ _ _ _ _ _ = env'
    have hsc : env'.scope = d.scope := by rw [← henv]; rfl
    have hcs : env'.cells = [] := by rw [← henv]; rfl
    have hlo : env'.locals = s₂.heap.objs.size := by rw [← henv]; rfl
    have FE : FEnv env' d.scope := ⟨hsc, fun y hy => absurd (mem_of_lookup hy) fun q => hcell _ q rfl⟩
    have keep : ∀ b o, s₂.heap.get? b = some o → h'.get? b = some o := fun b o e => hsb.extBut b o (Nat.ne_of_lt (Heap.lt_size e)) (Heap.get?_push_of_some _ e)
    refine ⟨G.nolimit.keeps fun b o e => keep b o (kb₂ b o e), ?_⟩
    generalize hI : h'.objs.size = I
    have hsz : I = s₂.heap.objs.size + 1 := by rw [← hI, hsb.1, Heap.size_push]
    generalize hs3 : ({ heap := _, gens := _, drawn := _, toks := _, os := _ } : Shared) = s₃
    have hgens : s₃.gens = s₂.gens.push (.fresh (.func d.body env')) := by rw [← hs3]
    have hheap : ∃ o, s₃.heap = h'.push o ∧ o.cls = .type "generator" ∧ (∃ nm qn, o.data = .fields #[.int s₂.gens.size 0, nm, qn]) ∧ o.slots = #[] := by rw [← hs3]; exact ⟨_, rfl, rfl, ⟨_, _, rfl⟩, rfl⟩
    have hos : s₃.os = s₂.os := by rw [← hs3]
    clear hs3
    obtain ⟨og, hheap, hgc, ⟨nm, qn, hgd⟩, hgs⟩ := hheap
    have hgen' : s₃.heap.IsGen I s₂.gens.size := ⟨og, nm, qn, by rw [hheap, ← hI]; exact Heap.get?_push_size _ (by rw [Obj.isFreed_of_fields hgd]), hgc, hgd, hgs⟩
    have keep₃ : ∀ b o, s₂.heap.get? b = some o → s₃.heap.get? b = some o := fun b o e => by rw [hheap]; exact Heap.get?_push_of_some _ (keep b o e)
    have st₃ : Stp G.base s₂ s₃ := ⟨.of_stays keep₃, hos, ⟨fun j x e => by
      have hlt := (Array.getElem?_eq_some_iff.mp e).1
      rw [hgens, Array.getElem?_push, if_neg (Nat.ne_of_lt hlt)]
      exact e, fun q x hx => by
      rw [hgens] at hx
      rcases Array.mem_push.mp hx with hx | rfl
      · exact q x hx
      · rfl⟩⟩
    have hL₂ : ∀ b, s₂.heap.objs.size ≤ b → s.heap.get? b = none := fun b hb => by
      cases q : s₂.heap.get? b with
      | none => exact st12.ext.none q
      | some o => exact absurd (Heap.lt_size q) (Nat.not_lt.mpr hb)
    have hfrw : ∀ b, FrW env' b → b = s₂.heap.objs.size := fun b w => by
      rcases w with w | ⟨y, w⟩
      · exact w.trans hlo
      · rw [hcs] at w; cases w
    have hns₃ : s₃.heap.Ns s₂.heap.objs.size (fun y => [(x, v)].reverse.lookup y) := hns'.keeps fun b o e => by rw [hheap]; exact Heap.get?_push_of_some _ e
    have inv₃ : Inv G.base (fun _ => True) env' [(x, .val d1)] s₃.heap := by
      refine ⟨⟨(by rw [hsc]; exact hk), ⟨_, (by rw [hlo]; exact hns₃)⟩, fun y c l => (by rw [hcs] at l; cases l), (by rw [hcs]; exact List.Pairwise.nil), fun y c l => (by rw [hcs] at l; cases l), (by rw [← henv]; rfl), (by rw [← henv]; rfl)⟩, fun b w => ?_, fun _ _ => trivial, fun y dd l => ?_, fun y b es l => ?_, fun b w => (nomatch w), List.nodup_nil⟩
      · have := hfrw b (w.elim id fun z => nomatch z)
        cases q : G.base.get? b with
        | none => rfl
        | some o => exact absurd (Heap.lt_size (kb₂ b o q)) (by rw [this]; exact Nat.lt_irrefl _)
      · rw [List.lookup_cons] at l
        cases q : y == x with
        | false => rw [q] at l; cases l
        | true =>
          rw [q] at l; cases l
          have q := beq_iff_eq.mp q
          subst q
          exact ⟨v, .inl ⟨FE.kind hloc, _, by rw [hlo]; exact hns₃, by simp⟩, ra.atomic hat⟩
      · rw [List.lookup_cons] at l
        cases q : y == x with
        | false => rw [q] at l; cases l
        | true => rw [q] at l; cases l
    have hIL : ¬ FrW env' I := fun w => by have h1 := hfrw I w; rw [hsz] at h1; exact Nat.succ_ne_self _ h1
    refine wpAny_pyIter_gen hgen' ⟨st12.trans st₃, I, _, _, _, rfl, ItrD.gen (C := FrW env') (g := s₂.gens.size) r.handled (by have := r.depth; omega), ⟨FrW env', rfl, fun _ w => w, hIL, hgen', fun b w => ?_, .fresh (.func d.body env'), ?_, ?_⟩, fun b hb' => ?_, fun g' hg' => ?_⟩
    · rw [hfrw b w]
      refine ⟨ns_not_node hns₃, ?_⟩
      obtain ⟨o, _, _, e, _⟩ := hns₃; rw [e]; rfl
    · rw [hgens]; simp
    · refine genGo_iff.mpr fun s₄ hc hb₄ hg₄ => ?_
      obtain ⟨V, hx4, hdom4, hF4, hok4⟩ := hc
      show Sg G.M A.in1 _ _ (.point [] fun _ => ((execs d.body env').onRaise (leaving env')) >>= _) [] _
      refine .mark ?_
      rw [Sem.onRaise_eq_wrap, Sem.bind_eq_wrap', Sem.wrap_wrap]
      have hp : Plain [(x, .val d1)] = true := by show (Atomic d1 && true) = true; rw [hat]; rfl
      refine body env' A.in1 _ s₂.gens.size _ _ FE (room_gen r) rfl s₄ (FrW env') (FrW env') _ ⟨hb₄, hb₄, inv₃.wake hp hx4 hF4 fun b e => .inr (.inl e), ⟨fun b o _ e => ⟨o, e, rfl, rfl, fun _ => rfl⟩, fun _ _ e => e, rfl, fun _ _ _ e => e, fun z => z⟩, fun _ w => w, fun _ w => .inl w, fun _ w => w, fun b w => inv₃.off b (.inl w), fun b w => ⟨fun nd => ?_, ?_⟩, nofun, trivial, rfl, ?_⟩
      · rw [hfrw b w] at nd
        exact ns_not_node hns₃ (node_back hx4 (hF4 _ (.inl hlo.symm)) (by obtain ⟨o, _, _, e, _⟩ := hns₃; rw [e]; rfl) nd)
      · cases q : s₄.heap.get? b with
        | some _ => exact (by show (s₄.heap.get? b).isSome = true; rw [q]; rfl)
        | none =>
          have := hdom4 b q
          rw [hfrw b w] at this
          obtain ⟨o, _, _, e, _⟩ := hns₃; rw [e] at this; cases this
      · rw [setGen_get hg₄]; rfl
    · rcases hb' with w | rfl
      · rw [hfrw b w]; exact hL₂ _ (Nat.le_refl _)
      · exact hL₂ _ (by omega)
    · subst hg'
      cases q : s.gens[s₂.gens.size]? with
      | none => rfl
      | some y =>
        have := st12.gens.keep _ _ q
        exact absurd (Array.getElem?_eq_some_iff.mp this).1 (Nat.lt_irrefl _)
end
end Mine
end
section
open PySem PySem.W PyProof.Rows PySem.Calls
set_option maxRecDepth 100000
namespace Mine
section
variable {G : Gr} {n : Nat} {env : Env} {σ : St} {sc : Scope}
theorem load_holds {M : Model} {A : Around} {E : Value → Shared → Prop} {s : Shared} {x : Str} {v : Value} {Q : Value → Shared → Prop} (hk : env.scope.kind = .function) (q : Holds env s.heap x v) (h : Q v s) (hc : (x == ("__classdict__" : Str)) = false) : wpAny M A (loadName env x) Q E s := by
  rcases q with ⟨k, m, hn, hv⟩ | ⟨k | k, c, hl, hv⟩
  · exact wpAny_loadName_local hk k hn hv h
  · exact wpAny_loadName_cell hk k hl hv h
  · exact wpAny_loadName_free hk k hl hv h hc
/-- x += e, x -= e -/
theorem Ex1.aug {x : Str} {op : Operator} {e : Expr} {p pos : Pos} {i j k : Int} (hl : σ.lookup x = some (.val (.int i))) (h : Ev G n env σ e (.int j)) (hx : Storable env x) (ho : (op = .Add ∧ k = i + j) ∨ (op = .Sub ∧ k = i - j)) (hc : (x == ("__classdict__" : Str)) = false := by decide) :
    Ex1 G n env σ (.AugAssign (.Name x p) op e pos) fun fl σ' => fl = .next ∧ σ' = setS x (.val (.int k)) σ := fun ok A s E r kb iv => by
  obtain ⟨v, hv, rv⟩ := iv.vals x _ hl
  cases rv
  refine wpAny_AugAssign_Name (load_holds iv.frame.kind hv (wpAny_mono (h ok A s E r kb iv) (fun w s₁ p₁ => ?_) fun _ _ x => x) hc)
  obtain ⟨st, rw'⟩ := p₁
  cases rw'
  have i₁ := iv.ext st.ext
  have fin : ∀ s₂, Stp G.base s₁ s₂ → ∀ t, wpAny G.M A (storeName env x (.int k t)) (fun _ => After G env σ ok s (fun fl σ' => fl = .next ∧ σ' = setS x (.val (.int k)) σ) .next) E s₂ := fun s₂ st₂ t => by
    have st' := st.trans st₂
    have i₂ := iv.ext st'.ext
    refine wpAny_store (base := G.base) i₂.frame hx fun s₃ hv ho F m => ?_
    have m' : Mv G.base (Wr env σ) s s₃ := (st'.mv (W := Wr env σ)).trans (m.weak fun _ w => Or.inl w) fun _ w => .inl w
    exact ⟨.next, _, ⟨rfl, rfl⟩, trivial, i₂.set_val m F hv ho (.int _ _), m', m'.base kb iv.off, fun a w => .inl (owned_setS_val w)⟩
  rcases ho with ⟨rfl, rfl⟩ | ⟨rfl, rfl⟩
  · exact AutoIntOps.iadd_0 (fin _ .tok _)
  · exact AutoIntOps.isub_0 (fin _ .tok _)
theorem CmpD.notIn_str {x y : Str} : CmpD G n .NotIn (.str y) (.str x) (!Txt.contains x y) := fun ok A s E va vb r k f ra rb => by
  cases ra; cases rb; exact SB.notContains ⟨.refl, rfl⟩
theorem CmpD.none_is : CmpD G n .Is .none .none true := fun ok A s E va vb r k f ra rb => by
  cases ra; cases rb; exact wpAny_is_self rfl ⟨.refl, rfl⟩
theorem CmpD.int_is {i : Int} : CmpD G n .Is (.int i) .none false := fun ok A s E va vb r k f ra rb => by
  cases ra; cases rb; exact is_int_none ⟨.refl, rfl⟩
theorem strs_of {ok : Addr → Prop} {h : Heap} : ∀ {vs : List Value} {ts : List Str}, RepAll ok h vs (ts.map .str) → ∃ l : List (Str × Tok), strValues l = vs ∧ l.map (·.1) = ts
  | _, [], .nil => ⟨[], rfl, rfl⟩
  | _, t :: ts, .cons (.str _ u) r => by
    obtain ⟨l, h1, h2⟩ := strs_of r
    exact ⟨(t, u) :: l, by rw [← h1]; rfl, by rw [← h2]; rfl⟩
theorem CallD.join {x : Str} {ts : List Str} (hok : JoinOk x ts = true) : CallD G n (.builtin "str.join") [.str x, .list (ts.map .str)] (.str (Txt.join x ts)) := fun ok A s E vs r k f rs => by
  cases rs with
  | cons a rs => cases rs with
    | cons b rs =>
      cases rs; cases a
      cases b with
      | list o l ra =>
        obtain ⟨l', rfl, h2⟩ := strs_of ra
        exact SC.join l h2 hok fun t' k => ⟨.tok, .str _ _⟩
theorem MethD.join {x : Str} : MethD G n (.str x) "join" (.builtin "str.join") := fun ok A s E v pl r k f rp => by
  cases rp; exact GM.join ⟨.refl, rfl⟩
theorem Ev.methB {o : Expr} {name : Str} {apos pos : Pos} {es : List Expr} {f : Value} {dv : D} {ds : List D} {d : D} (ho : EvB G n env σ o dv) (hm : MethD G n dv name f) (c : Callee G f) (ha : EvLB G n env σ es ds) (hc : CallD G n f (dv :: ds) d) (hat : Atomic d = true)
    (hns : noStar es = true := by rfl) (hplain : (backTo pos (starEach es env)).any (·.1) = false := by rfl)
    {pl : Sem Bool} (he : eval (.Call (.Attribute o name apos) es [] pos) env = (do
      let ov ← eval o env
      standAt apos.atName
      let (f, first) ← holding [ov] (getMethod ov name pl)
      callWith pos f first (backTo pos (starEach es env)) []) := by rfl) : Ev G n env σ (.Call (.Attribute o name apos) es [] pos) d := fun ok A s E r k i =>
  MethodCall_ (pl := pl) (wpAny_mono (ho ok A s E r k i) (fun v s₁ p₁ => wpAny_mono (hm _ A s₁ E v _ r (p₁.1.ext.base k) (i.ext p₁.1.ext).fresh p₁.2) (fun fx s₂ p₂ => by
    obtain ⟨st₂, rfl⟩ := p₂
    have st := p₁.1.trans st₂
    refine callWith_callee c hplain (wpAny_mono (ha ok A s₂ E pos r (st.ext.base k) (i.ext st.ext)) (fun vs s₃ p₃ => ⟨p₃.1.ext.base (st.ext.base k), ?_⟩) fun _ _ x => x) hns
    have st' := st.trans p₃.1
    exact wpAny_mono (hc _ A s₃ E (v :: vs) r (st'.ext.base k) (i.ext st'.ext).fresh (.cons ((p₁.2.stp st₂).stp p₃.1) p₃.2)) (fun _ _ p₄ => ⟨st'.trans p₄.1, p₄.2.atomic hat⟩) fun _ _ x => x) fun _ _ x => x) fun _ _ x => x) he
theorem join_none : ∀ (ls : List (List Nat)), Txt.join (S []) (ls.map S) = S ls.flatten := by
  intro ls
  unfold Txt.join
  rw [StrLaws.glued_eq_join]
  induction ls with
  | nil => rfl
  | cons l r ih =>
    cases r with
    | nil => show S l = _; simp
    | cons m t =>
      show S l ++ S [] ++ Str.join (S []) ((m :: t).map S) = _
      rw [ih]
      show (⟨(l.toArray ++ #[]) ++ (m :: t).flatten.toArray⟩ : Str) = _
      simp
theorem joinOk_none {ls : List (List Nat)} (h : ls.flatten.length ≤ sizeLine) : JoinOk (S []) (ls.map S) = true := by
  unfold JoinOk
  rw [StrLaws.joinTotal]
  have e : ((ls.map S).map (·.length)).sum = ls.flatten.length := by
    clear h
    induction ls with
    | nil => rfl
    | cons l r ih => rw [List.map_cons, List.map_cons, List.sum_cons, ih, List.flatten_cons, List.length_append, S_length]
  rw [e]
  show (!decide (ls.flatten.length + (ls.map S).length * 0 > sizeLine)) = true
  rw [Nat.mul_zero, Nat.add_zero]
  rw [Bool.not_eq_true', decide_eq_false_iff_not]; omega
end
end Mine
end
section
open PySem PySem.W PyProof.Rows PySem.Calls
set_option maxRecDepth 100000
namespace Mine
/-- signs with their places, a backslash and the sign behind it as one -/
def toks : Nat → Bool → List Nat → List (Nat × List Nat)
  | i, false, [] => []
  | i, true, [] => [(i - 1, [92])]
  | i, true, c :: r => (i, [92, c]) :: toks (i + 1) false r
  | i, false, c :: r => if c = 92 then toks (i + 1) true r else (i, [c]) :: toks (i + 1) false r
def tokD (t : Nat × List Nat) : D := .tuple [.int (t.1 : Nat), .str (S t.2)]
theorem toks_length : ∀ (l : List Nat) (i : Nat) (b : Bool), (toks i b l).length ≤ l.length + 1
  | [], i, false => by simp [toks]
  | [], i, true => by simp [toks]
  | c :: r, i, true => by have := toks_length r (i + 1) false; simp [toks]; omega
  | c :: r, i, false => by
    unfold toks
    split
    · have := toks_length r (i + 1) true; simp; omega
    · have := toks_length r (i + 1) false; simp; omega
abbrev SS := Nat × Option Nat × List (List Nat)
def stripStep (l : List Nat) (st : SS) (t : Nat × List Nat) : SS :=
  if t.2 = [34] then match st.2.1 with
    | none => (st.1, some t.1, st.2.2)
    | some o => (t.1 + 1, none, if st.1 ≠ o then st.2.2 ++ [(l.drop st.1).take (o - st.1)] else st.2.2)
  else st
def stripAt (l : List Nat) (ts : List (Nat × List Nat)) : SS := ts.foldl (stripStep l) (0, none, [])
def stripEnd (l : List Nat) (st : SS) : List (List Nat) := if st.1 < l.length then st.2.2 ++ [l.drop st.1] else st.2.2
def strip (l : List Nat) : List Nat := if 34 ∈ l then (stripEnd l (stripAt l (toks 0 false l))).flatten else l
theorem stripAt_snoc (l : List Nat) (ts : List (Nat × List Nat)) (t : Nat × List Nat) : stripAt l (ts ++ [t]) = stripStep l (stripAt l ts) t := by simp [stripAt]
theorem stripAt_rows (l : List Nat) : ∀ (ts : List (Nat × List Nat)), (stripAt l ts).2.2.length ≤ ts.length ∧ ∀ p ∈ (stripAt l ts).2.2, p.length ≤ l.length := by
  intro ts
  have go : ∀ (ts : List (Nat × List Nat)) (st : SS), (∀ p ∈ st.2.2, p.length ≤ l.length) → (ts.foldl (stripStep l) st).2.2.length ≤ st.2.2.length + ts.length ∧ ∀ p ∈ (ts.foldl (stripStep l) st).2.2, p.length ≤ l.length := by
    intro ts
    induction ts with
    | nil => intro st h; exact ⟨Nat.le_refl _, h⟩
    | cons t r ih =>
      intro st h
      have h1 : (stripStep l st t).2.2.length ≤ st.2.2.length + 1 ∧ ∀ p ∈ (stripStep l st t).2.2, p.length ≤ l.length := by
        unfold stripStep
        split
        · split
          · exact ⟨Nat.le_succ _, h⟩
          · split
            · refine ⟨by simp, fun p hp => ?_⟩
              rcases List.mem_append.mp hp with hp | hp
              · exact h p hp
              · rw [List.mem_singleton.mp hp]; simp; omega
            · exact ⟨Nat.le_succ _, h⟩
        · exact ⟨Nat.le_succ _, h⟩
      have := ih _ h1.2
      refine ⟨?_, this.2⟩
      have := this.1
      simp only [List.foldl_cons, List.length_cons] at this ⊢
      omega
  have := go ts (0, none, []) nofun
  exact ⟨by have h := this.1; simp only [List.length_nil, Nat.zero_add] at h; exact h, this.2⟩
theorem flatten_le {ls : List (List Nat)} {m : Nat} (h : ∀ p ∈ ls, p.length ≤ m) : ls.flatten.length ≤ ls.length * m := by
  induction ls with
  | nil => simp
  | cons a r ih =>
    have := ih fun p hp => h p (.tail _ hp)
    have := h a (.head _)
    rw [List.flatten_cons, List.length_append, List.length_cons, Nat.succ_mul]; omega
theorem stripEnd_rows (l : List Nat) : (stripEnd l (stripAt l (toks 0 false l))).length ≤ l.length + 2 ∧ ∀ p ∈ stripEnd l (stripAt l (toks 0 false l)), p.length ≤ l.length := by
  have h := stripAt_rows l (toks 0 false l)
  have h2 := toks_length l 0 false
  unfold stripEnd
  split
  · refine ⟨by simp; omega, fun p hp => ?_⟩
    rcases List.mem_append.mp hp with hp | hp
    · exact h.2 p hp
    · rw [List.mem_singleton.mp hp]; simp
  · exact ⟨by omega, h.2⟩
/-- the count of open brackets, none once it fell below -/
def openStep (st : Option Int) (t : Nat × List Nat) : Option Int := match st with
  | none => none
  | some k => if t.2 = [40] then some (k + 1) else if t.2 = [41] then (if k - 1 < 0 then none else some (k - 1)) else some k
def openAt (ts : List (Nat × List Nat)) : Option Int := ts.foldl openStep (some 0)
def sound (l : List Nat) : Bool := openAt (toks 0 false l) == some 0
def check (l : List Nat) : Bool := sound (strip l)
def bad : List Nat := [40, 39, 39, 44, 32, 39, 39, 41]
def pre (l : List Nat) : List Nat := if check l then l else bad
theorem openAt_snoc (ts : List (Nat × List Nat)) (t : Nat × List Nat) : openAt (ts ++ [t]) = openStep (openAt ts) t := by simp [openAt]
theorem openAt_none (ts : List (Nat × List Nat)) : ts.foldl openStep none = none := by
  induction ts with
  | nil => rfl
  | cons t r ih => simpa [openStep] using ih
/-- two names take a pair -/
def pairS (x y : Str) : D → St → St
  | .tuple [a, b], σ => setS y (.val b) (setS x (.val a) σ)
  | _, σ => σ
theorem S_inj {l m : List Nat} : S l = S m ↔ l = m := by
  constructor
  · intro h
    have := congrArg (fun x : Str => x.cps.toList) h
    simpa using this
  · intro h; rw [h]
theorem S_app (l m : List Nat) : S l ++ S m = S (l ++ m) := by
  show (⟨l.toArray ++ m.toArray⟩ : Str) = _
  simp
theorem signs_S (l : List Nat) : signs (S l) = l.map fun c => .str (S [c]) := by simp [signs]
theorem sz {k : Nat} (h : k ≤ 16000000) : k ≤ sizeLine := Nat.le_trans h (by decide)
section
variable {G : Gr} {n : Nat} {env : Env} {σ : St} {A : Around} {okc : Addr → Prop} {g : Nat} {c : Code} {fs : List PySem.Frame} {FR : Addr → Prop} {Res : Heap → Prop} {ds : List D}
theorem AssD.pair {x y : Str} {p q tp : Pos} {k : Nat} {a b : D} (hx : Storable env x) (hy : Storable env y) : AssD G n env (.Tuple [.Name x p, .Name y q] k tp) (.tuple [a, b]) (pairS x y (.tuple [a, b])) :=
  AssD.tuple (f := pairS x y (.tuple [a, b])) (AssL.cons (f := setS x (.val a)) (g := fun σ => setS y (.val b) σ) (.name hx) (AssL.cons (f := setS y (.val b)) (g := id) (.name hy) .nil)) rfl
theorem EvB.castB {e : Expr} {d d' : D} (h : EvB G n env σ e d) (q : d = d') : EvB G n env σ e d' := q ▸ h
theorem Gs.of {σ₀ : St} {t : Sem Fin} (h : Gs G A okc g env c fs FR Res σ₀ t ds) (hs : Sub σ₀ σ) : Gs G A okc g env c fs FR Res σ t ds := Gs.only hs h
end
end Mine
end
section
open PySem PySem.W PyProof.Rows PySem.Calls
set_option maxRecDepth 100000
namespace Mine
section
variable {G : Gr} {n : Nat} {env : Env} {σ : St} {sc : Scope}
theorem CallD.divmod {x y : Int} (h : y ≠ 0) (hs : y.natAbs < 1073741824) : CallD G n (.builtin "divmod") [.int x, .int y] (.tuple [.int (x.fdiv y), .int (x.fmod y)]) := fun ok A s E vs r k f rs => by
  cases rs with
  | cons a rs => cases rs with
    | cons b rs =>
      cases rs; cases a; cases b
      exact divmod_int h ⟨.push, .tuple (f _ fresh_get) ⟨_, Heap.get?_push_size _ rfl, rfl, _, rfl⟩ (.cons (.int _ _) (.cons (.int _ _) .nil))⟩ (.inl (PyProof.noPylong_small hs))
theorem BinD.add_list {ds es : List D} (hz : ds.length + es.length ≤ sizeLine) : BinD G n .Add (.list ds) (.list es) (.list (ds ++ es)) := fun ok A s E va vb r k f ra rb => by
  cases ra with
  | @list a vs _ o l rs =>
    cases rb with
    | @list b ws _ o2 l2 rs2 =>
      obtain ⟨⟨cls, dd, data, sl⟩, ho, hc, m, hd⟩ := id l
      obtain ⟨⟨cls2, dd2, data2, sl2⟩, ho2, hc2, m2, hd2⟩ := id l2
      simp only at hc hd hc2 hd2
      subst hc hd hc2 hd2
      have e : vs.toArray ++ ws.toArray = (vs ++ ws).toArray := by simp
      refine concat_meets ⟨_, ho, rfl⟩ ⟨_, ho2, rfl⟩ noFill_list_add seq_list_add PySem.F.slot_list_add PySem.F.entry_list_add (PySem.F.args_list_add_2 _ _) (list_addW a b vs.toArray ws.toArray m m2 dd dd2 sl sl2 (by simpa [rs.length, rs2.length] using hz)) ⟨ho, ho2, ?_⟩
      rw [e]
      have st : Stp G.base s { s with heap := s.heap.push { cls := .type "list", data := .seq (vs ++ ws).toArray }, toks := s.toks } := .push
      exact ⟨st, .list (f _ fresh_get) ⟨_, Heap.get?_push_size _ rfl, rfl, _, rfl⟩ ((rs.stp st).append (rs2.stp st))⟩
/-- list(x): a new one -/
theorem EvF.listOf {e : Expr} {p pos : Pos} {d : D} {ds : List D} (hk : env.kindOf "list" = some .globalImplicit) (hg : G.mg "list" = none) (h : Ev G n env σ e d) (hd : d = .list ds ∨ d = .tuple ds) (hz : ds.length ≤ sizeLine)
    (hns : noStar [e] = true := by rfl) (hplain : (backTo pos (starEach [e] env)).any (·.1) = false := by rfl) (he : starEach [e] env = (false, eval e env) :: starEach [] env := by rfl) :
    EvF G n env σ (.Call (.Name "list" p) [e] [] pos) ds := fun ok A s E r kb i => by
  have hb : Ev G n env σ (.Name "list" p) (.raw (.type "list")) := Ev.builtin hk hg (by rfl)
  refine Call_ (wpAny_mono (hb ok A s E r kb i) (fun v s₁ p₁ => ?_) fun _ _ x => x)
  obtain ⟨st, rp⟩ := p₁
  cases rp
  have kb₁ := st.ext.base kb
  refine callWith_callee (G := G) (.type _) hplain (wpAny_mono ((EvL.cons h .nil he : EvL G n env σ [e] [d]) ok A s₁ E pos r kb₁ (i.ext st.ext)) (fun vs s₂ p₂ => ⟨p₂.1.ext.base kb₁, ?_⟩) fun _ _ x => x) hns
  obtain ⟨st₂, rs⟩ := p₂
  have st12 := st.trans st₂
  cases rs with
  | cons ra rs =>
    cases rs
    have go : ∀ {a : Addr} {o : Obj} {T : String} {ws : List Value} {m : Nat}, (T = "list" ∨ T = "tuple") → s₂.heap.get? a = some o → o.cls = .type T → o.data = .seq ws.toArray m → RepAll (okO ok σ) s₂.heap ws ds →
        wpAny G.M A (call (.type "list") [.ref a]) (fun v s' => Stp G.base s s' ∧ ∃ a vs, v = .ref a ∧ s.heap.get? a = none ∧ OwnL s'.heap a vs ∧ RepAll (fun b => okO ok σ b ∧ b ≠ a) s'.heap vs ds) E s₂ := fun hT ho hc hdt ra => by
      refine call_list_seq (hsz := by rw [List.size_toArray, ra.length]; exact hz) _ hT ho hc hdt fun h' c' hkp hD => ?_
      have st₃ : Stp G.base s₂ { s₂ with heap := h' } := ⟨.of_stays hkp, rfl, .refl⟩
      refine ⟨st12.trans st₃, s₂.heap.objs.size, _, rfl, st12.ext.none fresh_get, ⟨c', hD⟩, ra.ext st₃.ext fun b q z => ⟨q, fun e => ?_⟩⟩
      rw [e, fresh_get] at z; cases z
    rcases hd with rfl | rfl
    · cases ra with
      | list o l ra => obtain ⟨ob, ho, hc, m, hdt⟩ := l; exact go (.inl rfl) ho hc hdt ra
    · cases ra with
      | tuple o l ra => obtain ⟨ob, ho, hc, m, hdt⟩ := l; exact go (.inr rfl) ho hc hdt ra
theorem CallD.sum {ns : List Int} : CallD G n (.builtin "sum") [.list (ns.map .int)] (.int ns.sum) := fun ok A s E vs r k f rs => by
  cases rs with
  | cons a rs =>
    cases rs
    cases a with
    | @list a vs _ o l ra =>
      have hI : ∀ {vs : List Value} {ns : List Int}, RepAll ok s.heap vs (ns.map .int) → IntsAre vs ns := by
        intro vs ns
        induction ns generalizing vs with
        | nil => intro h; cases h; exact .nil
        | cons m r ih => intro h; cases h with | cons a b => cases a; exact .cons _ _ (ih b)
      have hi := hI ra
      obtain ⟨xs, hx⟩ := hi.allInts.items
      rw [hx] at l
      refine sum_intListG r.handled l fun h' tk t' hk => ⟨.heap hk, ?_⟩
      have e : preSum (numAt xs) xs.size = ns.sum := by
        rw [preSum_eq, List.take_of_length_le (by simp), ← hi.numsOf, ← nums_intItems, ← hx]
      rw [e]; exact .int _ _
end
end Mine
end
section
open PySem PySem.W PyProof.Rows PySem.Calls
set_option maxRecDepth 100000
namespace Mine
section
variable {G : Gr} {n : Nat} {env : Env} {σ : St} {sc : Scope}
theorem IdxD.tuple {ds : List D} {i : Int} {d : D} (h0 : 0 ≤ i) (h1 : i < 2 ^ 62) (h : ds[i.toNat]? = some d) : IdxD G n (.tuple ds) (.int i) d := fun ok A s E vo vi r k f ro ri => by
  cases ri
  cases ro with
  | tuple o l rs =>
    obtain ⟨v, hv, rv⟩ := rs.get h
    have hlt : i.toNat < ds.length := (List.getElem?_eq_some_iff.mp h).1
    refine getItem_tuple l (by omega) (by omega) (j := i.toNat) ?_ (by simpa using hv) ⟨.refl, rv⟩
    unfold seqIndex?
    rw [List.size_toArray, rs.length]
    simp only [show ¬ i < 0 by omega, if_false]
    rw [if_pos (by simp only [Bool.and_eq_true, decide_eq_true_eq]; omega)]
theorem CallD.min2 {x y : Int} : CallD G n (.builtin "min") [.int x, .int y] (.int (if y < x then y else x)) := fun ok A s E vs r k f rs => by
  cases rs with
  | cons a rs => cases rs with
    | cons b rs =>
      cases rs; cases b; cases a
      refine min_two_ints r.handled fun h' tk hk => ⟨.heap hk, ?_⟩
      split <;> exact .int _ _
theorem pickD_map {α β : Type} (f : α → β) (ds : List α) (lo hi st : Option Int) : pickD (ds.map f) lo hi st = (pickD ds lo hi st).map f := by
  unfold pickD
  rw [List.length_map, List.map_filterMap]
  congr 1
  funext i
  rw [List.getElem?_map]
end
end Mine
end
section
open PySem PySem.W PyProof.Rows PySem.Calls
set_option maxRecDepth 100000
namespace Mine
section
variable {G : Gr} {n : Nat} {env : Env} {σ : St} {sc : Scope}
theorem FEnv.swaps {env : Env} {sc : Scope} {e : Expr} {t : Option Expr} {l : Nat} {b : Bool} (FE : FEnv env sc) (h : ∀ env' : Env, swapsWith e t l { env' with scope := sc } = pure b) : swapsWith e t l env = pure b := by
  have : env = { env with scope := sc } := by rw [← FE.scope]
  rw [this]; exact h env
theorem Sub.set {x : Str} {s : Slot} : ∀ {σ₀ σ₁ : St}, Sub σ₀ σ₁ → x ∉ σ₀.map (·.1) → Sub σ₀ (setS x s σ₁)
  | [], _, _, _ => trivial
  | (y, t) :: r, σ₁, h, k => by
    rw [List.map_cons, List.mem_cons, not_or] at k
    exact ⟨by rw [lookup_setS_ne (Ne.symm k.1)]; exact h.1, Sub.set h.2 k.2⟩
theorem contains_one (hay : List Nat) (c : Nat) : Txt.contains (S hay) (S [c]) = decide (c ∈ hay) := by
  unfold Txt.contains
  rw [S_length, occ_one]
  have go : ∀ (l : List Nat) (a : Nat), (pos c 1 a l).isEmpty = decide (c ∉ l) := by
    intro l
    induction l with
    | nil => intro a; rfl
    | cons d r ih =>
      intro a
      rw [pos]
      by_cases h : d = c
      · simp [h]
      · rw [if_neg h, ih]; simp [Ne.symm h]
  rw [go]; simp
def nums (js : List Nat) : List D := js.map fun j => .int (j : Nat)
def posOf (d : D) : Nat := match d with
  | .int i => i.toNat
  | _ => 0
theorem nums_map (js : List Nat) (f : Nat → D) : (nums js).map (fun d => f (posOf d)) = js.map f := by
  unfold nums
  rw [List.map_map]
  refine List.map_congr_left fun j _ => ?_
  simp [Function.comp, posOf]
theorem rng_nums (m : Nat) : rngList 0 (m : Int) = nums (List.range m) := by
  unfold rngList nums
  rw [Int.sub_zero, Int.toNat_natCast]
  refine List.map_congr_left fun i _ => ?_
  rw [Int.zero_add]
end
end Mine
end
section
open PySem PySem.W PyProof.Rows PySem.Calls
set_option maxRecDepth 100000
namespace Mine
def stepB (st : Option Int) (t : List Nat) : Option Int := openStep st (0, t)
/-- what is seen of the brackets: a flag hides -/
def stepV (st : Option Int) (p : List Nat) (h : Bool) : Option Int := if h then st else stepB st p
def seen (P : List (List Nat)) (fl : List Bool) (i : Nat) : Option Int := (List.range i).foldl (fun st j => stepV st (P.getD j []) (fl.getD j false)) (some 0)
def marks (l : List Bool) (js : List Nat) : List Bool := js.foldl (fun l j => l.set j true) l
/-- the sum of what is seen -/
def val (p : List Nat) (h : Bool) : Int := if h then 0 else if p = [40] then 1 else if p = [41] then -1 else 0
end Mine
end
section
open PySem PySem.W PyProof.Rows PySem.Calls
set_option maxRecDepth 100000
namespace Mine
/-- what stands to the sign whatever flies: all but the namespaces above the base -/
def core (base h : Heap) : Heap := hideAll h ((List.range h.objs.size).filter fun b => (base.get? b).isNone && (match h.get? b with | some o => isDict o.data | none => false))
theorem core_get {base h : Heap} {b : Addr} {o : Obj} (e : h.get? b = some o) (k : (base.get? b).isSome = true ∨ isDict o.data = false) : (core base h).get? b = some o := by
  refine hideAll_get _ e fun m => ?_
  have := (List.mem_filter.mp m).2
  rw [e] at this
  simp only [Bool.and_eq_true] at this
  rcases k with k | k
  · rw [Option.isNone_iff_eq_none.mp this.1] at k; cases k
  · rw [k] at this; exact Bool.false_ne_true this.2
theorem of_core {base h : Heap} {b : Addr} {o : Obj} (e : (core base h).get? b = some o) : h.get? b = some o ∧ ((base.get? b).isSome = true ∨ isDict o.data = false) := by
  have e' := of_hideAll _ e
  refine ⟨e', ?_⟩
  cases q : base.get? b with
  | some _ => exact .inl rfl
  | none =>
    cases z : isDict o.data with
    | false => exact .inr rfl
    | true =>
      have hm : b ∈ (List.range h.objs.size).filter fun b => (base.get? b).isNone && (match h.get? b with | some o => isDict o.data | none => false) :=
        List.mem_filter.mpr ⟨List.mem_range.mpr (Heap.lt_size e'), by rw [q, e']; simpa using z⟩
      have := hideAll_none (h := h) _ hm
      unfold core at e
      rw [this] at e; cases e
theorem core_none {base h : Heap} {b : Addr} (e : h.get? b = none) : (core base h).get? b = none := by
  cases q : (core base h).get? b with
  | none => rfl
  | some o => rw [(of_core q).1] at e; cases e
theorem core_stays {base : Heap} {s s' : Shared} (st : Stp base s s') : (core base s.heap).StaysIn s'.heap := fun b o e => by
  obtain ⟨e1, e2⟩ := of_core e
  obtain ⟨o', e', _, _, k⟩ := st.ext b o e1
  rw [e', k e2]
theorem Stp.fly {base h' : Heap} {s s' : Shared} (st : Stp base s s') (k : (core base s.heap).StaysIn h') (u : s'.heap.UpToSlots h') : Stp base s { s' with heap := h' } := by
  refine ⟨fun b o e => ?_, st.os, st.gens⟩
  obtain ⟨o', e', c', d', k'⟩ := st.ext b o e
  by_cases q : (base.get? b).isSome = true ∨ isDict o.data = false
  · exact ⟨o, k b o (core_get e q), rfl, rfl, fun _ => rfl⟩
  · have hd : isDict o.data = true := by
      cases z : isDict o.data with
      | true => rfl
      | false => exact absurd (.inr z) q
    have hnf : ∀ vs, o'.data ≠ .fields vs := fun vs z => by rw [d'] at z; rw [z] at hd; cases hd
    obtain ⟨sl, e''⟩ := u b o' e' hnf
    exact ⟨_, e'', c', d', fun z => absurd z q⟩
/-- the frames of the stack -/
structure Stk (base h : Heap) (A : Around) (l : List Env) : Prop where
  frames : A.frames = some l
  funs : ∀ env ∈ l, env.scope.kind = .function ∧ ∃ L m, env.frame = some L ∧ base.get? L = none ∧ h.Ns L m
theorem Stk.ext {base h h' : Heap} {A : Around} {l : List Env} (K : Stk base h A l) (x : Ext base h h') : Stk base h' A l :=
  ⟨K.frames, fun env he => let ⟨a, L, m, b, c, d⟩ := K.funs env he; ⟨a, L, m, b, c, x.ns d⟩⟩
theorem Stk.fun {base : Heap} {s s' : Shared} {A : Around} {l : List Env} (K : Stk base s.heap A l) (st : Stp base s s') : s'.heap.FunFrames (core base s.heap) l := by
  have funs := K.funs
  have go : ∀ l : List Env, (∀ env ∈ l, env.scope.kind = .function ∧ ∃ L m, env.frame = some L ∧ base.get? L = none ∧ s.heap.Ns L m) → s'.heap.FunFrames (core base s.heap) l := by
    intro l
    induction l with
    | nil => intro _; trivial
    | cons env r ih =>
      intro h
      obtain ⟨a, L, m, b, c, d⟩ := h env (.head _)
      refine ⟨by rw [a]; decide, ?_, ih fun e he => h e (.tail _ he)⟩
      obtain ⟨o, es, ep, e, hd, _⟩ := d
      obtain ⟨o', e', _, d', _⟩ := st.ext L o e
      refine ⟨L, o', b, ?_, e', fun vs q => by rw [d', hd] at q; cases q⟩
      cases q : (core base s.heap).get? L with
      | none => rfl
      | some o2 =>
        obtain ⟨q1, q2⟩ := of_core q
        rw [e] at q1; cases q1
        rcases q2 with q2 | q2
        · rw [c] at q2; cases q2
        · rw [hd] at q2; cases q2
  exact go l funs
/-- how far an exception has come -/
inductive Way where
  | new | fly
  | at (L : Addr)
/-- noted: the exception's object, its place in the trace, what flies -/
def Noted (B h : Heap) (X : String) (t e : Addr) (fl : Value) : Prop :=
  ∃ oe vs T oT ts, h.get? e = some oe ∧ oe.cls = .type X ∧ oe.data = .fields vs ∧ vs[0]? = some (.ref t) ∧ vs[1]? = some (.ref T) ∧ vs[2]? = some .none ∧ B.get? T = none ∧ T ≠ e ∧ h.get? T = some oT ∧ oT.data = .fields ts ∧ ts[3]? = some fl
def ExcAt (B h : Heap) (X : String) (t e : Addr) : Way → Prop
  | .new => ∃ oe vs, h.get? e = some oe ∧ oe.cls = .type X ∧ oe.data = .fields vs ∧ vs[0]? = some (.ref t) ∧ vs[1]? = some .none ∧ vs[2]? = some .none
  | .fly => Noted B h X t e .none
  | .at L => Noted B h X t e (rawInt L)
structure Exc (base : Heap) (X : String) (msg : Str) (way : Way) (s s' : Shared) (e : Addr) : Prop where
  stp : Stp base s s'
  new : s.heap.get? e = none
  it : ∃ t tk, ExcAt (core base s.heap) s'.heap X t e way ∧ s'.heap.TupAt t [.str msg tk]
section
variable {M : Model} {A : Around} {E : Value → Shared → Prop} {base : Heap} {X : String} {msg : Str} {s s' : Shared} {e : Addr} {env : Env} {l : List Env} {Q : Unit → Shared → Prop}
/-- a new row of the trace -/
theorem entry_step {B : Heap} {L : Addr} {oe : Obj} {vs : Array Value} {head : Value} {had : Bool} (hfr : A.frames = some (env :: l)) (ff : s.heap.FunFrames B (env :: l)) (hf : env.frame = some L) (kb : B.StaysIn s.heap)
    (he : s.heap.get? e = some oe) (hd : oe.data = .fields vs) (hsz : 1 < vs.size) (hen : B.get? e = none)
    (h : ∀ h' T oT ts, B.StaysIn h' → s.heap.UpToSlots h' → h'.get? e = some (Obj.mapFields (·.setIfInBounds 1 (.ref T)) oe) → B.get? T = none → T ≠ e → h'.get? T = some oT → oT.data = .fields ts → ts[3]? = some (rawInt L) → Q () { s with heap := h' }) :
    wpAny M A (do let a ← frameOf env; let pl ← entryPlaceOf L had; let b ← EntryCells.newEntry head a .none (rawInt L) .none pl; setField (.ref e) 1 b) Q E s := by
  have hne : e ∉ (env :: l).filterMap (·.frame) := fun hm => by
    obtain ⟨_, o, ho, hnf⟩ := ff.mem hm
    rw [he] at ho; cases ho; exact hnf vs hd
  refine wpAny_bind (wpAny_frameOf_fun hfr ff hf fun h₁ hs₁ => ?_)
  refine wpAny_bind (wpAny_entryPlaceOf fun pl hpl => ?_)
  unfold EntryCells.newEntry newFields
  refine wpAny_bind (wpAny_newObj_type ?_ (hpl.sizeOk5 _ _ _ _ _))
  have he₁ : h₁.get? e = some oe := (hs₁.2.1 e hne).trans he
  have kb₁ : B.StaysIn h₁ := fun b o hb => (hs₁.2.1 b fun hm => by rw [(ff.mem hm).1] at hb; cases hb).trans (kb b o hb)
  generalize hT : ({ cls := .type "traceback", dict := none, data := .fields ([head, .ref L, .none, rawInt L, .none] ++ (if pl.isEmpty then List.replicate 6 Value.none else pl)).toArray } : Obj) = oT
  have hTd : oT.data = .fields ([head, .ref L, .none, rawInt L, .none] ++ (if pl.isEmpty then List.replicate 6 Value.none else pl)).toArray := by rw [← hT]
  have hTn : oT.isFreed = false := by rw [← hT]; rfl
  have he₂ := Heap.get?_push_of_some (h := h₁) oT he₁
  refine wpAny_setField he₂ hd hsz ?_
  have hTe : h₁.objs.size ≠ e := Nat.ne_of_gt (Heap.lt_size he₁)
  have other : ∀ b o, b ≠ e → h₁.get? b = some o → ((h₁.push oT).update e (Obj.mapFields (·.setIfInBounds 1 (Value.ref h₁.objs.size)))).get? b = some o := fun b o hb q =>
    (Heap.get?_update_other _ _ (Ne.symm hb)).trans (Heap.get?_push_of_some _ q)
  refine h _ h₁.objs.size oT _ (fun b o q => other b o (fun z => by rw [z, hen] at q; cases q) (kb₁ b o q)) (fun b o q hnf => ?_)
    (Heap.get?_update_self _ he₂ (Obj.isFreed_of_fields (Obj.data_mapFields hd _))) kb₁.fresh hTe ((Heap.get?_update_other _ _ (Ne.symm hTe)).trans (Heap.get?_push_size h₁ hTn)) hTd (by simp)
  obtain ⟨sl, q'⟩ := hs₁.2.2 b o q
  exact ⟨sl, other b _ (fun z => by rw [z, he] at q; cases q; exact hnf vs hd) q'⟩
theorem noted_entry {B h' : Heap} {X : String} {t T : Addr} {oe oT : Obj} {vs ts : Array Value} {fl : Value} (hc : oe.cls = .type X) (hd : oe.data = .fields vs) (h0 : vs[0]? = some (.ref t)) (h2 : vs[2]? = some .none) (hsz : 1 < vs.size)
    (x1 : h'.get? e = some (Obj.mapFields (·.setIfInBounds 1 (.ref T)) oe)) (x2 : B.get? T = none) (x3 : T ≠ e) (x4 : h'.get? T = some oT) (x5 : oT.data = .fields ts) (x6 : ts[3]? = some fl) : Noted B h' X t e fl :=
  ⟨_, _, T, oT, ts, x1, (Obj.cls_mapFields _ _).trans hc, Obj.data_mapFields hd _, by rw [Array.getElem?_setIfInBounds_ne (by decide)]; exact h0, by simp [hsz], by rw [Array.getElem?_setIfInBounds_ne (by decide)]; exact h2, x2, x3, x4, x5, x6⟩
theorem Exc.note {way : Way} {L : Addr} (K : Stk base s.heap A (env :: l)) (x : Exc base X msg way s s' e) (hf : env.frame = some L) (hw : ∀ L', way = .at L' → L' = L) (h : ∀ s'', Exc base X msg (.at L) s s'' e → Q () s'') : wpAny M A (noteFrame (.ref e) env) Q E s' := by
  obtain ⟨st, new, t, tk, it, tup⟩ := x
  have k := core_stays st
  have ff := K.fun st
  have hen := core_none (base := base) new
  unfold noteFrame
  simp only [hf]
  cases way with
  | new =>
    obtain ⟨oe, vs, he, hc, hd, h0, h1, h2⟩ := it
    refine wpAny_bind (wpAny_field he hd h1 ?_)
    rw [if_neg (by decide)]
    have hsz := (Array.getElem?_eq_some_iff.mp h1).1
    exact entry_step K.frames ff hf k he hd hsz hen fun h' T oT ts k1 u x1 x2 x3 x4 x5 x6 => h _ ⟨st.fly k1 u, new, t, tk, noted_entry hc hd h0 h2 hsz x1 x2 x3 x4 x5 x6, tup.of_slots u⟩
  | fly =>
    obtain ⟨oe, vs, T, oT, ts, he, hc, hd, h0, h1, h2, hnT, hTe, hT, hdT, h3⟩ := it
    refine wpAny_bind (wpAny_field he hd h1 ?_)
    rw [if_pos (show (Value.ref T != Value.none) = true from by simp)]
    refine wpAny_bind (wpAny_field hT hdT h3 ?_)
    rw [if_neg (show ¬ ((Value.none == rawInt L) = true) from by simp [rawInt])]
    refine wpAny_bind (wpAny_setField hT hdT (Array.getElem?_eq_some_iff.mp h3).1 ?_)
    have other : ∀ b, b ≠ T → (s'.heap.update T (Obj.mapFields (·.setIfInBounds 3 Value.none))).get? b = s'.heap.get? b := fun b hb => Heap.get?_update_other _ _ (Ne.symm hb)
    have norec : ∀ b o, s'.heap.get? b = some o → (∀ vs, o.data ≠ .fields vs) → b ≠ T := fun b o hb hnf q => by rw [q, hT] at hb; cases hb; exact hnf ts hdT
    have u1 : s'.heap.UpToSlots (s'.heap.update T (Obj.mapFields (·.setIfInBounds 3 Value.none))) := fun b o hb hn => ⟨o.slots, (other b (norec b o hb hn)).trans hb⟩
    have hsz := (Array.getElem?_eq_some_iff.mp h1).1
    refine entry_step (s := { s' with heap := s'.heap.update T (Obj.mapFields (·.setIfInBounds 3 Value.none)) }) K.frames (ff.of_keeps fun b o hb hn => ⟨o, (other b (norec b o hb hn)).trans hb, rfl⟩) hf
      (fun b o hb => (other b fun q => by rw [q, hnT] at hb; cases hb).trans (k b o hb)) ((other e (Ne.symm hTe)).trans he) hd hsz hen fun h' T' oT' ts' k1 u x1 x2 x3 x4 x5 x6 => h _ ⟨st.fly k1 (u1.trans u), new, t, tk, noted_entry hc hd h0 h2 hsz x1 x2 x3 x4 x5 x6, tup.of_slots (u1.trans u)⟩
  | «at» L' =>
    have := hw L' rfl; subst this
    obtain ⟨oe, vs, T, oT, ts, he, hc, hd, h0, h1, h2, hnT, hTe, hT, hdT, h3⟩ := it
    refine wpAny_bind (wpAny_field he hd h1 ?_)
    rw [if_pos (show (Value.ref T != Value.none) = true from by simp)]
    refine wpAny_bind (wpAny_field hT hdT h3 ?_)
    rw [if_pos (show (rawInt L' == rawInt L') = true from by simp)]
    exact wpAny_pure (h _ ⟨st, new, t, tk, ⟨oe, vs, T, oT, ts, he, hc, hd, h0, h1, h2, hnT, hTe, hT, hdT, h3⟩, tup⟩)
theorem Exc.flight {fl fl' : Value} {fr : Option Addr} {way way' : Way} (hfl : fr.elim Value.none (fun f => rawInt f) = fl') (hway : ∀ B h t, ExcAt B h X t e way → Noted B h X t e fl) (hway' : ∀ B h t, Noted B h X t e fl' → ExcAt B h X t e way') (x : Exc base X msg way s s' e) (h : ∀ s'', Exc base X msg way' s s'' e → Q () s'') : wpAny M A (setFlight (.ref e) fr) Q E s' := by
  obtain ⟨st, new, t, tk, it, tup⟩ := x
  have k := core_stays st
  obtain ⟨oe, vs, T, oT, ts, he, hc, hd, h0, h1, h2, hnT, hTe, hT, hdT, h3⟩ := hway _ _ _ it
  unfold setFlight
  refine wpAny_bind (wpAny_field he hd h1 ?_)
  rw [if_pos (show (Value.ref T != Value.none) = true from by simp)]
  have hsz3 : 3 < ts.size := (Array.getElem?_eq_some_iff.mp h3).1
  refine wpAny_setField hT hdT hsz3 ?_
  rw [hfl]
  have other : ∀ b, b ≠ T → (s'.heap.update T (Obj.mapFields (·.setIfInBounds 3 fl'))).get? b = s'.heap.get? b := fun b hb => Heap.get?_update_other _ _ (Ne.symm hb)
  have norec : ∀ b o, s'.heap.get? b = some o → (∀ vs, o.data ≠ .fields vs) → b ≠ T := fun b o hb hnf q => by rw [q, hT] at hb; cases hb; exact hnf ts hdT
  have u : s'.heap.UpToSlots (s'.heap.update T (Obj.mapFields (·.setIfInBounds 3 fl'))) := fun b o hb hn => ⟨o.slots, (other b (norec b o hb hn)).trans hb⟩
  exact h _ ⟨st.fly (fun b o hb => (other b fun q => by rw [q, hnT] at hb; cases hb).trans (k b o hb)) u, new, t, tk,
    hway' _ _ _ ⟨oe, vs, T, _, _, (other e (Ne.symm hTe)).trans he, hc, hd, h0, h1, h2, hnT, hTe, Heap.get?_update_self _ hT (Obj.isFreed_of_fields (Obj.data_mapFields hdT _)), Obj.data_mapFields hdT _, by simp [hsz3]⟩, tup.of_slots u⟩
theorem Exc.land {way : Way} (x : Exc base X msg way s s' e) (hw : way ≠ .new) (h : ∀ s'', Exc base X msg .fly s s'' e → Q () s'') : wpAny M A (setFlight (.ref e) none) Q E s' := by
  cases way with
  | new => exact absurd rfl hw
  | fly => exact Exc.flight (way := .fly) (way' := .fly) (fl := .none) (fl' := .none) rfl (fun _ _ _ z => z) (fun _ _ _ z => z) x h
  | «at» L => exact Exc.flight (way := .at L) (way' := .fly) (fl := rawInt L) (fl' := .none) rfl (fun _ _ _ z => z) (fun _ _ _ z => z) x h
theorem Exc.leave {way : Way} (K : Stk base s.heap A (env :: l)) (x : Exc base X msg way s s' e) (hw : ∀ L, way = .at L → env.frame = some L) (h : ∀ s'', Exc base X msg .fly s s'' e → Q () s'') : wpAny M A (leaving env (.ref e)) Q E s' := by
  obtain ⟨_, L, m, hf, _⟩ := K.funs env (.head _)
  unfold leaving
  exact wpAny_bind (x.note K hf (fun L' z => by have := hw L' z; rw [hf] at this; cases this; rfl) fun s₁ x₁ => x₁.land (by simp) h)
theorem Exc.back {L L' : Addr} (x : Exc base X msg (.at L') s s' e) (hf : env.frame = some L) (h : ∀ s'', Exc base X msg (.at L) s s'' e → E (.ref e) s'') : cameBackBy M A env E (.ref e) s' := by
  obtain ⟨oe, vs, T, oT, ts, he, hc, hd, h0, h1, _⟩ : ∃ oe vs T oT ts, s'.heap.get? e = some oe ∧ oe.cls = .type X ∧ oe.data = .fields vs ∧ (∃ t, vs[0]? = some (.ref t)) ∧ vs[1]? = some (.ref T) ∧ s'.heap.get? T = some oT ∧ oT.data = .fields ts := by
    obtain ⟨st, new, t, tk, ⟨oe, vs, T, oT, ts, he, hc, hd, h0, h1, h2, hnT, hTe, hT, hdT, h3⟩, tup⟩ := x
    exact ⟨oe, vs, T, oT, ts, he, hc, hd, ⟨t, h0⟩, h1, hT, hdT⟩
  unfold cameBackBy
  refine wpAny_bind (wpAny_field he hd h1 ?_)
  rw [if_neg (show ¬ ((Value.ref T == Value.none) = true) from by simp)]
  rw [hf]
  exact Exc.flight (fr := some L) (way := .at L') (way' := .at L) (fl := rawInt L') (fl' := rawInt L) rfl (fun _ _ _ z => z) (fun _ _ _ z => z) x h
/-- seen from farther back -/
theorem Exc.of_mv {way : Way} {W : Addr → Prop} {s₀ : Shared} (x : Exc base X msg way s s' e) (m : Mv base W s₀ s) (hW : ∀ b, W b → s₀.heap.get? b = none) : Exc base X msg way s₀ s' e := by
  obtain ⟨st, new, t, tk, it, tup⟩ := x
  have st0 := m.stp hW
  have hc : ∀ b, (core base s.heap).get? b = none → (core base s₀.heap).get? b = none := fun b hb => by
    cases q : (core base s₀.heap).get? b with
    | none => rfl
    | some o =>
      obtain ⟨q1, q2⟩ := of_core q
      obtain ⟨o', e', _, _, k'⟩ := st0.ext b o q1
      have := k' q2; subst this
      rw [core_get e' q2] at hb; cases hb
  refine ⟨st0.trans st, m.dom e new, t, tk, ?_, tup⟩
  have go : ∀ fl, Noted (core base s.heap) s'.heap X t e fl → Noted (core base s₀.heap) s'.heap X t e fl := fun fl ⟨oe, vs, T, oT, ts, he, hc', hd, h0, h1, h2, hnT, r⟩ => ⟨oe, vs, T, oT, ts, he, hc', hd, h0, h1, h2, hc T hnT, r⟩
  cases way with
  | new => exact it
  | fly => exact go _ it
  | «at» L => exact go _ it
theorem Exc.of_stp {way : Way} {s₀ : Shared} (x : Exc base X msg way s s' e) (m : Stp base s₀ s) : Exc base X msg way s₀ s' e := x.of_mv (W := fun _ => False) m.mv fun _ h => h.elim
end
end Mine
end
section
open PySem PySem.W PyProof.Rows PySem.Calls
set_option maxRecDepth 100000
namespace Mine
/-- an object stands, up to a namespace's marks -/
def Same1 (base h h' : Heap) (b : Addr) : Prop := ∀ o, h.get? b = some o → ∃ o', h'.get? b = some o' ∧ o'.cls = o.cls ∧ o'.data = o.data ∧ ((base.get? b).isSome = true ∨ isDict o.data = false → o' = o)
/-- what is known besides the frame's state: of objects that the frame does not write -/
structure Rd (base : Heap) (env : Env) (fp : Addr → Prop) (H : Around → Heap → Prop) : Prop where
  keep : ∀ A h h', H A h → (∀ b, fp b → Same1 base h h' b) → H A h'
  apart : ∀ A h, H A h → Frame env h → ∀ b, fp b → (h.get? b).isSome = true ∧ ¬ FrW env b ∧ ∀ vs, ¬ OwnL h b vs
section
variable {G : Gr} {n : Nat} {env : Env} {σ : St} {fp : Addr → Prop} {H : Around → Heap → Prop}
theorem Rd.ext {base h h' : Heap} {A : Around} (R : Rd base env fp H) (x : Ext base h h') (k : H A h) : H A h' := R.keep A h h' k fun b _ o e => x b o e
theorem Rd.mv {ok : Addr → Prop} {base : Heap} {A : Around} {s s' : Shared} (R : Rd base env fp H) (i : Inv base ok env σ s.heap) (m : Mv base (Wr env σ) s s') (k : H A s.heap) : H A s'.heap :=
  R.keep A _ _ k fun b hb o e => m.ext b o (fun w => by
    obtain ⟨_, h2, h3⟩ := R.apart A _ k i.frame b hb
    rcases w with w | w
    · exact h2 w
    · obtain ⟨vs, l⟩ := i.there b w; exact h3 vs l) e
def EvP (G : Gr) (n : Nat) (env : Env) (H : Around → Heap → Prop) (σ : St) (e : Expr) (d : D) : Prop := ∀ ok A s E, H A s.heap → Room n A → G.base.StaysIn s.heap → Inv G.base ok env σ s.heap →
  wpAny G.M A (eval e env) (fun v s' => Stp G.base s s' ∧ Rep (okO ok σ) s'.heap v d) E s
def EvLP (G : Gr) (n : Nat) (env : Env) (H : Around → Heap → Prop) (σ : St) (es : List Expr) (ds : List D) : Prop := ∀ ok A s E p, H A s.heap → Room n A → G.base.StaysIn s.heap → Inv G.base ok env σ s.heap →
  wpAny G.M A (spliced (backTo p (starEach es env))) (fun vs s' => Stp G.base s s' ∧ RepAll (okO ok σ) s'.heap vs ds) E s
def TrP (G : Gr) (n : Nat) (env : Env) (H : Around → Heap → Prop) (σ : St) (e : Expr) (b : Bool) : Prop := ∀ ok A s E, H A s.heap → Room n A → G.base.StaysIn s.heap → Inv G.base ok env σ s.heap →
  wpAny G.M A (isTrue e env (eval e env)) (fun r s' => Stp G.base s s' ∧ r = b) E s
def ExP (G : Gr) (n : Nat) (env : Env) (H : Around → Heap → Prop) (σ : St) (body : List Stmt) (Q : Fl → St → Prop) : Prop := ∀ ok A s E, H A s.heap → Room n A → G.base.StaysIn s.heap → Inv G.base ok env σ s.heap →
  wpAny G.M A (execs body env) (After G env σ ok s Q) E s
def ExP1 (G : Gr) (n : Nat) (env : Env) (H : Around → Heap → Prop) (σ : St) (st : Stmt) (Q : Fl → St → Prop) : Prop := ∀ ok A s E, H A s.heap → Room n A → G.base.StaysIn s.heap → Inv G.base ok env σ s.heap →
  wpAny G.M A (exec st env) (After G env σ ok s Q) E s
theorem EvP.of {e : Expr} {d : D} (h : Ev G n env σ e d) : EvP G n env H σ e d := fun ok A s E _ r k i => h ok A s E r k i
theorem ExP.of {body : List Stmt} {Q : Fl → St → Prop} (h : Ex G n env σ body Q) : ExP G n env H σ body Q := fun ok A s E _ r k i => h ok A s E r k i
theorem ExP1.of {st : Stmt} {Q : Fl → St → Prop} (h : Ex1 G n env σ st Q) : ExP1 G n env H σ st Q := fun ok A s E _ r k i => h ok A s E r k i
theorem TrP.cast {e : Expr} {c c' : Bool} (h : TrP G n env H σ e c) (q : c = c') : TrP G n env H σ e c' := q ▸ h
theorem ExP1.mono {st : Stmt} {Q Q' : Fl → St → Prop} (a : ExP1 G n env H σ st Q) (h : ∀ fl σ', Q fl σ' → Q' fl σ') : ExP1 G n env H σ st Q' := fun ok A s E q r k i => wpAny_mono (a ok A s E q r k i) (fun _ _ p => p.mono h) fun _ _ x => x
theorem TrP.cmp {a b : Expr} {op : CmpOp} {p : Pos} {da db : D} {c : Bool} (R : Rd G.base env fp H) (ha : EvP G n env H σ a da) (hb : EvP G n env H σ b db) (ho : CmpD G n op da db c) (hm : behindInMarks op b = false := by with_unfolding_all rfl) :
    TrP G n env H σ (.Compare a [op] [b] p) c := fun ok A s E q r k i =>
  wpAny_isTrue_Compare1 (wpAny_mono (ha ok A s E q r k i) (fun va s₁ p₁ => wpAny_mono (hb ok A s₁ E (R.ext p₁.1.ext q) r (p₁.1.ext.base k) (i.ext p₁.1.ext)) (fun vb s₂ p₂ =>
    have st := p₁.1.trans p₂.1
    wpAny_mono (ho _ A s₂ E va vb r (st.ext.base k) (i.ext st.ext).freshO (p₁.2.stp p₂.1) p₂.2) (fun _ _ p₃ => by rw [p₃.2]; exact wpAny_truthy_bool ⟨st.trans p₃.1, rfl⟩) fun _ _ x => x) fun _ _ x => x) fun _ _ x => x) hm
theorem ExP.nil {Q : Fl → St → Prop} (h : Q .next σ) : ExP G n env H σ [] Q := .of (.nil h)
theorem ExP.cons {st : Stmt} {rest : List Stmt} {Q : Fl → St → Prop} (R : Rd G.base env fp H) (h : ExP1 G n env H σ st fun fl σ' => match fl with | .next => ExP G n env H σ' rest Q | fl => Q fl σ') : ExP G n env H σ (st :: rest) Q := fun ok A s E q r k i =>
  wpAny_execs_cons (wpAny_mono (h ok A s E q r k i) (fun f s' a => by
    obtain ⟨fl, σ', qq, fi, i', m, k', o⟩ := a
    cases f <;> cases fl <;> first | exact fi.elim | skip
    · exact wpAny_mono (qq ok A s' E (R.mv i m q) r k' i') (fun _ _ a => a.trans m o m.dom) fun _ _ x => x
    · exact ⟨.brk, σ', qq, trivial, i', m, k', o⟩
    · exact ⟨.cont, σ', qq, trivial, i', m, k', o⟩
    · exact ⟨.ret _, σ', qq, fi, i', m, k', o⟩) fun _ _ x => x)
theorem ExP.step {st : Stmt} {rest : List Stmt} {Q : Fl → St → Prop} {P : St → Prop} (R : Rd G.base env fp H) (h : ExP1 G n env H σ st fun fl σ' => fl = .next ∧ P σ') (hr : ∀ σ', P σ' → ExP G n env H σ' rest Q) : ExP G n env H σ (st :: rest) Q :=
  .cons R (h.mono fun fl σ' p => by obtain ⟨rfl, p⟩ := p; exact hr σ' p)
theorem ExP.one {st : Stmt} {rest : List Stmt} {Q : Fl → St → Prop} {σ' : St} (R : Rd G.base env fp H) (h : ExP1 G n env H σ st fun fl σ'' => fl = .next ∧ σ'' = σ') (hr : ExP G n env H σ' rest Q) : ExP G n env H σ (st :: rest) Q :=
  .step R h fun _ e => e ▸ hr
theorem ExP1.ite {t : Expr} {a b : List Stmt} {pos : Pos} {c : Bool} {Q : Fl → St → Prop} (R : Rd G.base env fp H) (h : TrP G n env H σ t c) (ha : c = true → ExP G n env H σ a Q) (hb : c = false → ExP G n env H σ b Q) : ExP1 G n env H σ (.If t a b pos) Q := fun ok A s E q r k i =>
  wpAny_If (wpAny_mono (h ok A s E q r k i) (fun c' s₁ p₁ => by
    obtain ⟨st, rfl⟩ := p₁
    have go : ∀ body, ExP G n env H σ body Q → wpAny G.M A (execs body env) (After G env σ ok s Q) E s₁ := fun body hq =>
      wpAny_mono (hq ok A s₁ E (R.ext st.ext q) r (st.ext.base k) (i.ext st.ext)) (fun _ _ a => a.trans st.mv (fun _ w => .inl w) fun b e => st.ext.none e) fun _ _ x => x
    cases c' with
    | true => exact go _ (ha rfl)
    | false => exact go _ (hb rfl)) fun _ _ x => x)
theorem ExP.only {σ₀ : St} {body : List Stmt} {Q : Fl → St → Prop} (hs : Sub σ₀ σ) (h : ExP G n env H σ₀ body Q) (hn : (σ₀.map (·.1)).Nodup := by simp; try decide) : ExP G n env H σ body Q := fun ok A s E q r k i =>
  wpAny_mono (h ok A s E q r k (i.sub hs (Sub.nodup i.once hn hs))) (fun _ _ a => a.sub hs.owned) fun _ _ x => x
theorem ExP.freeze {x : Str} {a : Addr} {ds : List D} {body : List Stmt} {Q : Fl → St → Prop} (l : σ.lookup x = some (.own a ds)) (h : ExP G n env H (setS x (.val (.list ds)) σ) body Q) : ExP G n env H σ body Q := fun ok A s E q r k i =>
  wpAny_mono (h ok A s E q r k (i.freeze l)) (fun _ _ a => a.sub fun b w => owned_setS_val w) fun _ _ x => x
theorem EvLP.nil : EvLP G n env H σ [] [] := fun _ _ _ _ _ _ _ _ _ => args_nil ⟨.refl, .nil⟩
theorem EvLP.cons {e : Expr} {es : List Expr} {d : D} {ds : List D} (R : Rd G.base env fp H) (h : EvP G n env H σ e d) (hs : EvLP G n env H σ es ds) (he : starEach (e :: es) env = (false, eval e env) :: starEach es env := by rfl) : EvLP G n env H σ (e :: es) (d :: ds) := fun ok A s E p q r k i =>
  args_cons (wpAny_mono (h ok A s E q r k i) (fun v s₁ p₁ => wpAny_mono (hs ok A s₁ E p (R.ext p₁.1.ext q) r (p₁.1.ext.base k) (i.ext p₁.1.ext)) (fun vs s₂ p₂ => ⟨p₁.1.trans p₂.1, .cons (p₁.2.stp p₂.1) p₂.2⟩) fun _ _ x => x) fun _ _ x => x) he
/-- a call that needs to know the stack -/
def CallP (G : Gr) (n : Nat) (f : Value) (ds : List D) (d : D) : Prop := ∀ ok A s E vs l, Room n A → G.base.StaysIn s.heap → FreshOk ok s.heap → Stk G.base s.heap A l → RepAll ok s.heap vs ds →
  wpAny G.M A (call f vs) (fun v s' => Stp G.base s s' ∧ Rep ok s'.heap v d) E s
/-- what is known tells the stack -/
def Tells (G : Gr) (env : Env) (H : Around → Heap → Prop) : Prop := ∀ ok A h σ, H A h → Inv G.base ok env σ h → ∃ l, Stk G.base h A (env :: l)
end
end Mine
end
section
open PySem PySem.W PyProof.Rows PySem.Calls
set_option maxRecDepth 100000
namespace Mine
/-- the frame and those below it -/
def HS (base : Heap) (env : Env) (l : List Env) : Around → Heap → Prop := fun A h => A.frames = some (env :: l) ∧ env.frame = some env.locals ∧
  ∀ env' ∈ l, env'.scope.kind = .function ∧ ∃ L m, env'.frame = some L ∧ base.get? L = none ∧ h.Ns L m ∧ L ≠ env.locals
def fpS (l : List Env) : Addr → Prop := fun b => ∃ env' ∈ l, env'.frame = some b
theorem ns_same {base h h' : Heap} {b : Addr} {m : Str → Option Value} (k : Same1 base h h' b) (n : h.Ns b m) : h'.Ns b m := by
  obtain ⟨o, es, ep, e, d, r⟩ := n
  obtain ⟨o', e', _, d', _⟩ := k o e
  exact ⟨o', es, ep, e', d'.trans d, r⟩
theorem rdS {base : Heap} {env : Env} {l : List Env} : Rd base env (fpS l) (HS base env l) where
  keep := fun A h h' ⟨a, b, c⟩ k => ⟨a, b, fun e he => let ⟨c1, L, m, c2, c3, c4, c5⟩ := c e he; ⟨c1, L, m, c2, c3, ns_same (k L ⟨e, he, c2⟩) c4, c5⟩⟩
  apart := fun A h ⟨a, b, c⟩ F x ⟨e, he, hx⟩ => by
    obtain ⟨c1, L, m, c2, c3, c4, c5⟩ := c e he
    rw [hx] at c2; cases c2
    obtain ⟨o, es, ep, e1, d1, _⟩ := c4
    refine ⟨by rw [e1]; rfl, ?_, ?_⟩
    · rintro (w | ⟨y, w⟩)
      · exact c5 w
      · obtain ⟨v, o2, e2, d2⟩ := F.cells y _ w
        rw [e1] at e2; cases e2; rw [d1] at d2; cases d2
    · rintro vs ⟨k, e2⟩
      rw [e1] at e2; cases e2; cases d1
theorem HS.stk {base h : Heap} {env : Env} {l : List Env} {A : Around} (x : HS base env l A h) (F : Frame env h) (off : base.get? env.locals = none) : Stk base h A (env :: l) := by
  obtain ⟨a, b, c⟩ := x
  refine ⟨a, fun e he => ?_⟩
  rcases List.mem_cons.mp he with q | q
  · subst q; exact ⟨F.kind, let ⟨m, q⟩ := F.ns; ⟨_, m, b, off, q⟩⟩
  · obtain ⟨c1, L, m, c2, c3, c4, _⟩ := c e q
    exact ⟨c1, L, m, c2, c3, c4⟩
theorem tellsS {G : Gr} {env : Env} {l : List Env} : Tells G env (HS G.base env l) := fun ok A h σ x i => ⟨l, x.stk i.frame (i.off _ (.inl (.inl rfl)))⟩
section
variable {G : Gr} {n : Nat}
/-- into a def's frame -/
theorem call_enter {d : DefRec} {a : Addr} {ds : List D} {Q : Value → Shared → Prop} {E : Value → Shared → Prop} {ok : Addr → Prop} {A : Around} {s : Shared} {vs : List Value} (F : FnAt G d a) (hds : d.params.args.length = ds.length)
    (hbind : ∀ pm code doc vs, vs.length = ds.length → bindArgs (docDef d.name d.params d.body d.scope pm code doc) ⟨vs, []⟩ = pure ((d.params.args.map (·.arg)).zip vs))
    (hkind : (d.params.args.all fun y => d.scope.names.lookup y.arg == some .local || d.scope.names.lookup y.arg == some .cell) = true) (hnd : (d.params.args.map (·.arg)).Nodup)
    (hco : d.scope.isCoroutine = false) (hgen : d.scope.isGenerator = false) (hk : d.scope.kind = .function)
    (rm : Room (n + 1) A) (k : G.base.StaysIn s.heap) (fr : FreshOk ok s.heap) (rs : RepAll ok s.heap vs ds)
    (h : ∀ env s₁, FEnv env d.scope → env.frame = some env.locals → Stp G.base s s₁ → Inv G.base ok env ((d.params.args.map (·.arg)).zip (ds.map Slot.val)) s₁.heap → (∀ b, FrW env b → s.heap.get? b = none) → Room n (A.deeper env) →
      wpAny G.M (A.deeper env) (execs d.body env) (fun f s' => Q (match f with | .ret v => v | _ => .none) s') (fun x s' => wpAny G.M (A.deeper env) (leaving env x) (fun _ s'' => E x s'') E s') s₁) :
    wpAny G.M A (call (.ref a) vs) Q E s := by
  obtain ⟨o, pm, code, doc, ho, hd, hcd⟩ := F.obj
  refine wpAny_call (codeAny_call_cells (fd := docDef d.name d.params d.body d.scope pm code doc) (body := d.body) (vals := vs) (binds := (d.params.args.map (·.arg)).zip vs) (by have := rm.depth; omega) (k _ _ ho) hd (G.nolimit.keeps k) (hcd.keeps k) rfl (hbind _ _ _ _ rs.length) rfl ?_ (fun s₁ x => ?_) hco hgen hk)
  · intro p hp
    have hm : p.1 ∈ d.params.args.map (·.arg) := (List.of_mem_zip hp).1
    obtain ⟨y, hy, e⟩ := List.mem_map.mp hm
    have := List.all_eq_true.mp hkind y hy
    rw [e] at this
    exact kindsX (scope := d.scope) (binds := [(p.1, p.2)]) (by simpa using this) _ (p.1, p.2) (by simp)
  · generalize henv : callEnvC (docDef d.name d.params d.body d.scope pm code doc) s.heap.objs.size a = env at x ⊢
    have hsc : env.scope = d.scope := by rw [← henv]; rfl
    have hcs : env.cells = cellsFrom (s.heap.objs.size + 1) d.scope.names [] := by rw [← henv]; rfl
    have hfl : env.frame = some env.locals := by rw [← henv]; rfl
    have FE : FEnv env d.scope := ⟨hsc, fun y hy => by rw [hcs]; exact cellsFrom_some _ _ _ (.inl hy)⟩
    have hnoL : ∀ b, s.heap.objs.size ≤ b → s.heap.get? b = none := fun b hb => by
      cases q : s.heap.get? b with
      | none => rfl
      | some o => exact absurd (Nat.lt_of_lt_of_le (Heap.lt_size q) hb) (Nat.lt_irrefl _)
    have hfw : ∀ b, FrW env b → s.heap.get? b = none := fun b w => by
      rcases w with w | ⟨y, w⟩
      · exact hnoL b (w ▸ x.toInCall.fresh)
      · exact hnoL b (Nat.le_of_lt (Nat.lt_of_le_of_lt x.toInCall.fresh (x.above y b (mem_of_lookup w))))
    have hvl : ((d.params.args.map (·.arg)).zip vs).map (·.1) = d.params.args.map (·.arg) := by
      rw [List.map_fst_zip]; rw [List.length_map, hds, rs.length]; exact Nat.le_refl _
    have hnd' : (((d.params.args.map (·.arg)).zip vs).map (·.1)).Nodup := by rw [hvl]; exact hnd
    have st : Stp G.base s s₁ := by
      obtain ⟨h', tk, rfl, hkp⟩ := x.done
      exact .heap hkp
    have inv : Inv G.base ok env ((d.params.args.map (·.arg)).zip (ds.map Slot.val)) s₁.heap := by
      refine ⟨⟨by rw [hsc]; exact hk, ⟨_, x.toInCall.ns⟩, fun y c l => ⟨_, x.cell y c l⟩, x.apart, fun y c l => Nat.ne_of_gt (x.above y c (mem_of_lookup l)), by rw [← henv]; rfl, by rw [← henv]; rfl⟩,
        fun b w => ?_, fr.stp st.ext, fun y e l => ?_, fun y b es l => absurd l (lookup_zip_own _ _), fun b w => ?_, ?_⟩
      · rw [Wr, owned_zip] at w
        have := hfw b (w.elim id fun z => nomatch z)
        cases q : G.base.get? b with
        | none => rfl
        | some o => rw [k b o q] at this; cases this
      · obtain ⟨v, hm, rp⟩ := repAll_zip rs l
        refine ⟨v, ?_, (rp.stp st).weak fun b q => ⟨q, by rw [owned_zip]; simp⟩⟩
        have hy : y ∈ d.params.args.map (·.arg) := (List.of_mem_zip hm).1
        obtain ⟨z, hz, e⟩ := List.mem_map.mp hy
        have hkd := List.all_eq_true.mp hkind z hz
        rw [e] at hkd
        rcases Bool.or_eq_true_iff.mp hkd with q | q
        · have q' : env.kindOf y = some .local := FE.kind (by simpa using q)
          exact .inl ⟨q', _, x.toInCall.ns, bindL_get _ q' _ _ hnd' hm⟩
        · have q0 : d.scope.names.lookup y = some .cell := by simpa using q
          have q' : env.kindOf y = some .cell := FE.kind q0
          obtain ⟨c, hc⟩ := Option.isSome_iff_exists.mp (FE.cells y q0)
          refine .inr ⟨.inl q', c, hc, ?_⟩
          have := x.cell y c hc
          rw [bindC_get _ q' _ _ hnd' hm] at this
          exact this
      · rw [owned_zip] at w; cases w
      · rw [owned_zip]; exact List.nodup_nil
    exact h env s₁ FE hfl st inv hfw rm.deeper
theorem HS.enter {base : Heap} {A : Around} {s s₁ : Shared} {l : List Env} {env : Env} (K : Stk base s.heap A l) (st : Stp base s s₁) (hfl : env.frame = some env.locals) (hfw : ∀ b, FrW env b → s.heap.get? b = none) : HS base env l (A.deeper env) s₁.heap :=
  ⟨Around.frames_deeper K.frames, hfl, fun e he => let ⟨c1, L, m, c2, c3, c4⟩ := K.funs e he; ⟨c1, L, m, c2, c3, st.ext.ns c4, fun z => by
    have := hfw L (.inl z)
    obtain ⟨o, _, _, e1, _⟩ := c4
    rw [e1] at this; cases this⟩⟩
theorem CallP.def {d : DefRec} {a : Addr} {ds : List D} {r : D} (F : FnAt G d a) (hds : d.params.args.length = ds.length)
    (hbind : ∀ pm code doc vs, vs.length = ds.length → bindArgs (docDef d.name d.params d.body d.scope pm code doc) ⟨vs, []⟩ = pure ((d.params.args.map (·.arg)).zip vs))
    (hkind : (d.params.args.all fun y => d.scope.names.lookup y.arg == some .local || d.scope.names.lookup y.arg == some .cell) = true) (hnd : (d.params.args.map (·.arg)).Nodup)
    (h : ∀ env l, FEnv env d.scope → ExP G n env (HS G.base env l) ((d.params.args.map (·.arg)).zip (ds.map Slot.val)) d.body fun fl _ => fl = .ret r)
    (hco : d.scope.isCoroutine = false) (hgen : d.scope.isGenerator = false) (hk : d.scope.kind = .function) : CallP G (n + 1) (.ref a) ds r := fun ok A s E vs l rm k fr K rs => by
  refine call_enter F hds hbind hkind hnd hco hgen hk rm k fr rs fun env s₁ FE hfl st inv hfw rm' => ?_
  refine wpAny_mono (h env l FE ok _ s₁ (fun _ _ => False) (HS.enter K st hfl hfw) rm' (st.ext.base k) inv) (fun f s₂ q => ?_) fun _ _ x => x.elim
  obtain ⟨fl, σ', rfl, fi, _, mv, _, _⟩ := q
  cases f with
  | ret v =>
    refine ⟨?_, fi⟩
    have m2 : Mv G.base (FrW env) s s₂ := ((st.mv (W := FrW env))).trans mv fun b w => by rw [Wr, owned_zip] at w; exact .inl (w.elim id fun z => nomatch z)
    exact m2.stp hfw
  | _ => exact fi.elim
/-- what a raise leaves -/
def RX (G : Gr) (X : String) (msg : Str) (s : Shared) (x : Value) (s' : Shared) : Prop := ∃ e w, x = .ref e ∧ (w = .new ∨ w = .fly) ∧ Exc G.base X msg w s s' e
def CallX (G : Gr) (n : Nat) (f : Value) (ds : List D) (X : String) (msg : Str) : Prop := ∀ ok A s vs l, Room n A → G.base.StaysIn s.heap → FreshOk ok s.heap → Stk G.base s.heap A l → RepAll ok s.heap vs ds →
  wpAny G.M A (call f vs) (fun _ _ => False) (RX G X msg s) s
def CmpX (G : Gr) (n : Nat) (op : CmpOp) (da db : D) (X : String) (msg : Str) : Prop := ∀ ok A s va vb, Room n A → G.base.StaysIn s.heap → FreshOk ok s.heap → Rep ok s.heap va da → Rep ok s.heap vb db →
  wpAny G.M A (compareOp op va vb) (fun _ _ => False) (RX G X msg s) s
theorem RX.of_stp {X : String} {msg : Str} {s s₁ s' : Shared} {x : Value} (h : RX G X msg s₁ x s') (st : Stp G.base s s₁) : RX G X msg s x s' :=
  let ⟨e, w, a, b, c⟩ := h; ⟨e, w, a, b, c.of_stp st⟩
section
variable {env : Env} {σ : St} {fp : Addr → Prop} {H : Around → Heap → Prop} {X : String} {msg : Str}
def EvX (G : Gr) (n : Nat) (env : Env) (H : Around → Heap → Prop) (σ : St) (e : Expr) (X : String) (msg : Str) : Prop := ∀ ok A s, H A s.heap → Room n A → G.base.StaysIn s.heap → Inv G.base ok env σ s.heap →
  wpAny G.M A (eval e env) (fun _ _ => False) (RX G X msg s) s
def TrX (G : Gr) (n : Nat) (env : Env) (H : Around → Heap → Prop) (σ : St) (e : Expr) (X : String) (msg : Str) : Prop := ∀ ok A s, H A s.heap → Room n A → G.base.StaysIn s.heap → Inv G.base ok env σ s.heap →
  wpAny G.M A (isTrue e env (eval e env)) (fun _ _ => False) (RX G X msg s) s
/-- where a body's raise leaves the frame's own: at s₁, all behind that is the exception's way -/
def RB (G : Gr) (env : Env) (H : Around → Heap → Prop) (σ : St) (X : String) (msg : Str) (A : Around) (s : Shared) (x : Value) (s' : Shared) : Prop :=
  ∃ s₁ e w, x = .ref e ∧ (w = .new ∨ w = .fly ∨ ∃ L, w = .at L ∧ env.frame = some L) ∧ Mv G.base (Wr env σ) s s₁ ∧ Frame env s₁.heap ∧ H A s₁.heap ∧ Exc G.base X msg w s₁ s' e
def ExX (G : Gr) (n : Nat) (env : Env) (H : Around → Heap → Prop) (σ : St) (body : List Stmt) (X : String) (msg : Str) : Prop := ∀ ok A s, H A s.heap → Room n A → G.base.StaysIn s.heap → Inv G.base ok env σ s.heap →
  wpAny G.M A (execs body env) (fun _ _ => False) (RB G env H σ X msg A s) s
def ExX1 (G : Gr) (n : Nat) (env : Env) (H : Around → Heap → Prop) (σ : St) (st : Stmt) (X : String) (msg : Str) : Prop := ∀ ok A s, H A s.heap → Room n A → G.base.StaysIn s.heap → Inv G.base ok env σ s.heap →
  wpAny G.M A (exec st env) (fun _ _ => False) (RB G env H σ X msg A s) s
theorem RX.rb {A : Around} {s s' : Shared} {x : Value} {ok : Addr → Prop} (h : RX G X msg s x s') (q : H A s.heap) (i : Inv G.base ok env σ s.heap) : RB G env H σ X msg A s x s' :=
  let ⟨e, w, a, b, c⟩ := h; ⟨s, e, w, a, b.elim .inl fun z => .inr (.inl z), Stp.refl.mv, i.frame, q, c⟩
theorem RB.trans {σ₁ : St} {A : Around} {s s₁ s' : Shared} {x : Value} (m : Mv G.base (Wr env σ) s s₁) (o : ∀ a ∈ owned σ₁, a ∈ owned σ ∨ s.heap.get? a = none) (h : RB G env H σ₁ X msg A s₁ x s') : RB G env H σ X msg A s x s' := by
  obtain ⟨s₂, e, w, a, b, m', f, q, c⟩ := h
  exact ⟨s₂, e, w, a, b, m.trans m' (fun p z => z.elim (fun z => .inl (.inl z)) fun z => (o p z).imp .inr id), f, q, c⟩
theorem ExX.head {st : Stmt} {rest : List Stmt} (h : ExX1 G n env H σ st X msg) : ExX G n env H σ (st :: rest) X msg := fun ok A s q r k i =>
  wpAny_execs_cons (wpAny_mono (h ok A s q r k i) (fun _ _ z => z.elim) fun _ _ z => z)
theorem ExX.only {σ₀ : St} {body : List Stmt} (hs : Sub σ₀ σ) (h : ExX G n env H σ₀ body X msg) (hn : (σ₀.map (·.1)).Nodup := by simp; try decide) : ExX G n env H σ body X msg := fun ok A s q r k i =>
  wpAny_mono (h ok A s q r k (i.sub hs (Sub.nodup i.once hn hs))) (fun _ _ z => z.elim) fun _ _ z => z.trans Stp.refl.mv fun a w => .inl (hs.owned a w)
theorem ExX1.iteT {t : Expr} {a b : List Stmt} {pos : Pos} (h : TrX G n env H σ t X msg) : ExX1 G n env H σ (.If t a b pos) X msg := fun ok A s q r k i =>
  wpAny_If (wpAny_mono (h ok A s q r k i) (fun _ _ z => z.elim) fun _ _ z => z.rb q i)
theorem ExX1.assign {x : Str} {e : Expr} {p pos : Pos} (h : EvX G n env H σ e X msg) (hs : swapsWith e (some (.Name x p)) pos.line env = pure false := by rfl) : ExX1 G n env H σ (.Assign [.Name x p] e pos) X msg := fun ok A s q r k i =>
  wpAny_Assign_Name (wpAny_mono (h ok A s q r k i) (fun _ _ z => z.elim) fun _ _ z => z.rb q i) hs
theorem TrX.cmp {a b : Expr} {op : CmpOp} {p : Pos} {da db : D} (ha : Ev G n env σ a da) (hb : Ev G n env σ b db) (ho : CmpX G n op da db X msg) (hm : behindInMarks op b = false := by with_unfolding_all rfl) :
    TrX G n env H σ (.Compare a [op] [b] p) X msg := fun ok A s q r k i =>
  wpAny_isTrue_Compare1 (wpAny_mono (ha ok A s _ r k i) (fun va s₁ p₁ => wpAny_mono (hb ok A s₁ _ r (p₁.1.ext.base k) (i.ext p₁.1.ext)) (fun vb s₂ p₂ =>
    have st := p₁.1.trans p₂.1
    wpAny_mono (ho _ A s₂ va vb r (st.ext.base k) (i.ext st.ext).freshO (p₁.2.stp p₂.1) p₂.2) (fun _ _ z => z.elim) fun _ _ z => z.of_stp st) fun _ _ x => x) fun _ _ x => x) hm
theorem TrX.not {e : Expr} {p : Pos} (h : TrX G n env H σ e X msg) : TrX G n env H σ (.UnaryOp .Not e p) X msg := fun ok A s q r k i =>
  isTrue_not (wpAny_mono (h ok A s q r k i) (fun _ _ z => z.elim) fun _ _ x => x)
theorem TrX.plain {e : Expr} (h : EvX G n env H σ e X msg)
    (he : ∀ whole, isTrue e env whole = (do let v ← whole; standAt e.pos; holding [v] (truthy v)) := by intro _; rfl) : TrX G n env H σ e X msg := fun ok A s q r k i =>
  isTrue_plain (wpAny_mono (h ok A s q r k i) (fun _ _ z => z.elim) fun _ _ x => x) (he _)
theorem EvX.call {x : Str} {p pos : Pos} {es : List Expr} {f : Value} {ds : List D} (R : Rd G.base env fp H) (T : Tells G env H) (hf : Ev G n env σ (.Name x p) (.raw f)) (c : Callee G f) (ha : EvLP G n env H σ es ds) (hc : CallX G n f ds X msg)
    (hns : noStar es = true := by rfl) (hplain : (backTo pos (starEach es env)).any (·.1) = false := by rfl) : EvX G n env H σ (.Call (.Name x p) es [] pos) X msg := fun ok A s q r k i =>
  Call_ (wpAny_mono (hf ok A s _ r k i) (fun v s₁ p₁ => by
    obtain ⟨st, rp⟩ := p₁
    cases rp
    refine callWith_callee c hplain (wpAny_mono (ha ok A s₁ _ pos (R.ext st.ext q) r (st.ext.base k) (i.ext st.ext)) (fun vs s₂ p₂ => ?_) fun _ _ x => x) hns
    have st2 := st.trans p₂.1
    obtain ⟨l, K⟩ := T ok A _ σ (R.ext st2.ext q) (i.ext st2.ext)
    exact ⟨st2.ext.base k, wpAny_mono (hc _ A s₂ vs _ r (st2.ext.base k) (i.ext st2.ext).freshO K p₂.2) (fun _ _ z => z.elim) fun _ _ z => z.of_stp st2⟩) fun _ _ x => x)
end
theorem CallX.def {d : DefRec} {a : Addr} {ds : List D} {X : String} {msg : Str} (F : FnAt G d a) (hds : d.params.args.length = ds.length)
    (hbind : ∀ pm code doc vs, vs.length = ds.length → bindArgs (docDef d.name d.params d.body d.scope pm code doc) ⟨vs, []⟩ = pure ((d.params.args.map (·.arg)).zip vs))
    (hkind : (d.params.args.all fun y => d.scope.names.lookup y.arg == some .local || d.scope.names.lookup y.arg == some .cell) = true) (hnd : (d.params.args.map (·.arg)).Nodup)
    (h : ∀ env l, FEnv env d.scope → ExX G n env (HS G.base env l) ((d.params.args.map (·.arg)).zip (ds.map Slot.val)) d.body X msg)
    (hco : d.scope.isCoroutine = false) (hgen : d.scope.isGenerator = false) (hk : d.scope.kind = .function) : CallX G (n + 1) (.ref a) ds X msg := fun ok A s vs l rm k fr K rs => by
  refine call_enter F hds hbind hkind hnd hco hgen hk rm k fr rs fun env s₁ FE hfl st inv hfw rm' => ?_
  refine wpAny_mono (h env l FE ok _ s₁ (HS.enter K st hfl hfw) rm' (st.ext.base k) inv) (fun f s₂ z => z.elim) fun x s' z => ?_
  obtain ⟨s₂, e, w, rfl, hw, mv, fr2, h2, ex⟩ := z
  have off : G.base.get? env.locals = none := inv.off _ (.inl (.inl rfl))
  refine ex.leave (h2.stk fr2 off) (fun L q => ?_) fun s'' ex' => ⟨e, .fly, rfl, .inr rfl, ?_⟩
  · rcases hw with hw | hw | ⟨L', hw, hL⟩
    · rw [hw] at q; cases q
    · rw [hw] at q; cases q
    · rw [hw] at q; cases q; exact hL
  · have m2 : Mv G.base (FrW env) s s₂ := ((st.mv (W := FrW env))).trans mv fun b w => by rw [Wr, owned_zip] at w; exact .inl (w.elim id fun z => nomatch z)
    exact ex'.of_mv m2 hfw
end
end Mine
end
section
open PySem PySem.W PyProof.Rows PySem.Calls
set_option maxRecDepth 100000
namespace Mine
section
variable {α : Type} {M : Model} {A : Around} {E : Value → Shared → Prop} {s : Shared} {base : Heap} {X : String}
theorem Exc.made {h' : Heap} {tk : Nat} {e t : Addr} {msg : Str} {tk' : Tok} {vs : Array Value} {o : Obj} (k : ∀ b o, s.heap.get? b = some o → h'.get? b = some o) (new : s.heap.get? e = none) (he : h'.get? e = some o) (hc : o.cls = .type X) (hd : o.data = .fields vs) (h0 : vs[0]? = some (.ref t)) (h1 : vs[1]? = some .none) (h2 : vs[2]? = some .none)
    (ht : h'.TupAt t [.str msg tk']) : Exc base X msg .new s { s with heap := h', toks := tk } e :=
  ⟨.heap k, new, t, tk', ⟨o, vs, he, hc, hd, h0, h1, h2⟩, ht⟩
theorem raise_made {msg : String} {Q : α → Shared → Prop} (hh : A.handled = none) (h : ∀ s' e, Exc base "TypeError" msg .new s s' e → E (.ref e) s') (hm : (msg : Str).length ≤ sizeLine := by size_fits) : wpAny M A (raiseErrorMade "TypeError" msg : Sem α) Q E s := by
  unfold raiseErrorMade
  refine wpAny_bind (wpAny_mkStr (wpAny_bind ?_) hm)
  unfold newExc newTuple
  refine wpAny_bind (wpAny_newObj_type ?_)
  refine wpAny_bind (m := firstArgMember _ _) (wpAny_of_eq (a := Value.none) (by simp only [firstArgMember, typeError_no_first]; rfl) ?_)
  rw [ownMembersOf_TypeError]
  refine wpAny_newObj_type ?_
  unfold raiseNew
  refine wpAny_bind (wpAny_handled ?_)
  rw [hh]
  first
    | refine wpAny_throw ?_
    | refine wpAny_bind (wpAny_pure (wpAny_throw ?_))
  refine h _ _ (Exc.made (t := s.heap.objs.size) (fun b o hb => Heap.get?_push_of_some _ (Heap.get?_push_of_some _ hb)) (Heap.get?_none_of_le (by simp)) (Heap.get?_push_size _ rfl) rfl rfl (by simp) (by simp) (by simp) ⟨_, _, Heap.get?_push_of_some _ (Heap.get?_push_size _ rfl), rfl, rfl⟩)
theorem sub_te_te : isSubtype (.type "TypeError") (.type "TypeError") = pure true := by rw [isSubtype_type]; kernel_rfl
theorem Exc.typeIs {way : Way} {msg : Str} {s' : Shared} {e : Addr} (x : Exc base X msg way s s' e) : s'.TypeIs (.ref e) X := by
  obtain ⟨st, new, t, tk, it, tup⟩ := x
  cases way with
  | new => obtain ⟨oe, vs, he, hc, _⟩ := it; exact ⟨oe, he, hc⟩
  | fly => obtain ⟨oe, vs, T, oT, ts, he, hc, _⟩ := it; exact ⟨oe, he, hc⟩
  | «at» L => obtain ⟨oe, vs, T, oT, ts, he, hc, _⟩ := it; exact ⟨oe, he, hc⟩
/-- x in v where v cannot be walked -/
theorem contains_raises {c x : Value} {T : String} {msg : String} {Q : Bool → Shared → Prop} (hh : A.handled = none) (hT : ∀ s' : Shared, s'.TypeIs c T) (hnm : stdlibNamesSay? c x = none)
    (hc : typeLookup (.type T) "__contains__" = pure none) (hi : typeLookup (.type T) "__iter__" = pure none) (hg : typeLookup (.type T) "__getitem__" = pure none)
    (hn : (Value.type T == Value.type "builtin_function_or_method") = false) (hm : s!"argument of type '{shownName T}' is not iterable" = msg) (hz1 : (s!"'{shownName T}' object is not iterable" : Str).length ≤ sizeLine) (hz2 : (msg : Str).length ≤ sizeLine)
    (h : ∀ s' e, Exc base "TypeError" msg .new s s' e → E (.ref e) s') : wpAny M A (contains c x) Q E s := by
  unfold contains
  refine wpAny_holding ?_
  rw [hnm]
  refine wpAny_bind (wpAny_specialOf (hT s) hc ?_)
  show wpAny M A (if ((none : Option Value) == some Value.none) = true then _ else _) Q E s
  rw [if_neg (by decide)]
  refine wpAny_bind (wpAny_callSpecialUnlessNone?_none (hT s) hc ?_)
  refine wpAny_bind (wpAny_rule (wpAny_bind (wpAny_tryCatch (m := pyIter c) ?_)))
  unfold pyIter
  refine wpAny_bind (wpAny_specialOf (hT s) hi ?_)
  refine wpAny_bind (wpAny_specialOf (hT s) hg ?_)
  refine wpAny_bind (wpAny_rule (wpAny_bind (wpAny_typeNameOf' (hT s) hn ?_)))
  refine raise_made (base := base) hh (fun s₁ e₁ x₁ => ?_) hz1
  refine wpAny_bind (wpAny_isInstance x₁.typeIs sub_te_te ?_)
  rw [if_pos rfl]
  refine wpAny_bind (wpAny_typeNameOf' (hT s₁) hn ?_)
  rw [hm]
  exact raise_made (base := base) hh (fun s₂ e₂ x₂ => h s₂ e₂ (x₂.of_stp x₁.stp)) hz2
end
theorem lk_none_contains : typeLookup (.type "NoneType") "__contains__" = pure none := by rw [typeLookup_type, builtinLookup_eq_fast]; kernel_rfl
theorem lk_none_iter : typeLookup (.type "NoneType") "__iter__" = pure none := by rw [typeLookup_type, builtinLookup_eq_fast]; kernel_rfl
theorem lk_none_getitem : typeLookup (.type "NoneType") "__getitem__" = pure none := by rw [typeLookup_type, builtinLookup_eq_fast]; kernel_rfl
theorem lk_int_contains : typeLookup (.type "int") "__contains__" = pure none := by rw [typeLookup_type, builtinLookup_eq_fast]; kernel_rfl
theorem lk_int_iter : typeLookup (.type "int") "__iter__" = pure none := by rw [typeLookup_type, builtinLookup_eq_fast]; kernel_rfl
theorem lk_int_getitem : typeLookup (.type "int") "__getitem__" = pure none := by rw [typeLookup_type, builtinLookup_eq_fast]; kernel_rfl
theorem shown_none : shownName "NoneType" = "NoneType" := by unfold shownName; decide +kernel
theorem shown_int : shownName "int" = "int" := by unfold shownName; decide +kernel
theorem shown_str : shownName "str" = "str" := by unfold shownName; decide +kernel
section
variable {G : Gr} {n : Nat}
theorem CmpX.notIn_none {y : Str} : CmpX G n .NotIn (.str y) .none "TypeError" "argument of type 'NoneType' is not iterable" := fun ok A s va vb r k f ra rb => by
  cases ra; cases rb
  show wpAny G.M A (do return Value.bool (!(← contains .none _))) _ _ s
  exact wpAny_bind (contains_raises r.handled (fun _ => rfl) rfl lk_none_contains lk_none_iter lk_none_getitem (by decide) (by rw [shown_none]; rfl) (by rw [shown_none]; size_fits) (by size_fits) fun s' e x => ⟨e, .new, rfl, .inl rfl, x⟩)
theorem CmpX.notIn_int {y : Str} {i : Int} : CmpX G n .NotIn (.str y) (.int i) "TypeError" "argument of type 'int' is not iterable" := fun ok A s va vb r k f ra rb => by
  cases ra; cases rb
  show wpAny G.M A (do return Value.bool (!(← contains (.int i _) _))) _ _ s
  exact wpAny_bind (contains_raises r.handled (fun s => typeIs_int s _ _) rfl lk_int_contains lk_int_iter lk_int_getitem (by decide) (by rw [shown_int]; rfl) (by rw [shown_int]; size_fits) (by size_fits) fun s' e x => ⟨e, .new, rfl, .inl rfl, x⟩)
end
end Mine
end
section
open PySem PySem.W PyProof.Rows PySem.Calls
set_option maxRecDepth 100000
namespace Mine
theorem slot_bytes_contains : PySem.Slot "bytes" "__contains__" "bytes.__contains__" :=
  .of (owner := "bytes") (n := "__contains__") (by rw [typeLookup_type, builtinLookup_eq_fast]; kernel_rfl) (by decide +kernel) (by decide +kernel) (by decide +kernel)
    (by first | exact .inl (by decide +kernel) | exact .inr (by decide +kernel)) (by rw [isSubtype_type]; kernel_rfl)
theorem entry_bytes_contains : entryFor table "bytes.__contains__" = some Builtin.«bytes.__contains__» := entryFor_of_tree (by kernel_rfl)
theorem owner_bytes : Manifest.owners.lookup (String.ofList ['s', 'e', 't', 'y', 'b'].reverse) = some Manifest.sig_bytes := by kernel_rfl
theorem args_bytes_contains (a b : Value) : argsOk "bytes.__contains__" ⟨[a, b], []⟩ := by
  unfold argsOk; rw [signature?_of (id := "bytes.__contains__") (n := ['_', '_', 's', 'n', 'i', 'a', 't', 'n', 'o', 'c', '_', '_']) (o := ['s', 'e', 't', 'y', 'b']) (by kernel_rfl) owner_bytes]; kernel_rfl
theorem lk_str_index : typeLookup (.type "str") "__index__" = pure none := by rw [typeLookup_type, builtinLookup_eq_fast]; kernel_rfl
theorem lk_str_buffer : typeLookup (.type "str") "__buffer__" = pure none := by rw [typeLookup_type, builtinLookup_eq_fast]; kernel_rfl
theorem lk_bytes_buffer : typeLookup (.type "bytes") "__buffer__" = pure (some (.builtin "bytes.__buffer__")) := by rw [typeLookup_type, builtinLookup_eq_fast]; kernel_rfl
theorem lk_bytes_release : typeLookup (.type "bytes") "__release_buffer__" = pure none := by rw [typeLookup_type, builtinLookup_eq_fast]; kernel_rfl
theorem sub_bytes_bytes : isSubtype (.type "bytes") (.type "bytes") = pure true := by rw [isSubtype_type]; kernel_rfl
section
variable {M : Model} {A : Around} {E : Value → Shared → Prop} {s : Shared} {base : Heap}
theorem buffer_bytes {id : String} {b : Array UInt8} {t : Tok} {Q : Option (Array UInt8) → Shared → Prop} (h : Q (some b) s) : wpAny M A (Builtin.Bytes.buffer? id (.bytes b t)) Q E s := by
  have hT : s.TypeIs (.bytes b t) "bytes" := rfl
  have h1 := lk_bytes_buffer
  have h2 := lk_bytes_release
  have h3 := sub_bytes_bytes
  unfold Builtin.Bytes.buffer?
  refine wpAny_bind (wpAny_specialOf hT lk_bytes_buffer ?_)
  dsimp only
  unfold Builtin.Bytes.slotIsOwn
  refine wpAny_bind (wpAny_bind (wpAny_specialOf hT lk_bytes_buffer ?_))
  have he : "bytes.__buffer__".endsWith ("." ++ "__buffer__") = true := by decide +kernel
  have hr : "bytes.__buffer__".dropRight ("__buffer__".length + 1) = "bytes" := by decide +kernel
  dsimp only
  rw [he, hr]
  rw [if_neg (by decide)]
  refine wpAny_isInstance hT sub_bytes_bytes ?_
  rw [if_neg (by decide)]
  refine wpAny_bind (wpAny_specialOf hT lk_bytes_buffer ?_)
  unfold Builtin.Bytes.ownRelease Builtin.Bytes.slotIsOwn
  refine wpAny_bind (wpAny_bind (wpAny_bind (wpAny_specialOf hT lk_bytes_release ?_)))
  refine wpAny_pure (wpAny_pure ?_)
  rw [if_neg (by decide)]
  unfold Builtin.Bytes.payload Builtin.Bytes.payload?
  exact wpAny_bind (wpAny_bind (wpAny_pure (wpAny_pure (wpAny_pure h))))
theorem buffer_str {id : String} {x : Str} {t : Tok} {Q : Option (Array UInt8) → Shared → Prop} (h : Q none s) : wpAny M A (Builtin.Bytes.buffer? id (.str x t)) Q E s := by
  have hT : s.TypeIs (.str x t) "str" := rfl
  unfold Builtin.Bytes.buffer?
  refine wpAny_bind (wpAny_specialOf hT lk_str_buffer ?_)
  refine wpAny_bind (wpAny_specialOf hT lk_str_buffer ?_)
  exact wpAny_pure h
theorem asIndex_str {x : Str} {t : Tok} {Q : Int → Shared → Prop} (hh : A.handled = none) (h : ∀ s' e, Exc base "TypeError" "'str' object cannot be interpreted as an integer" .new s s' e → E (.ref e) s') : wpAny M A (asIndex (.str x t)) Q E s := by
  have hT : s.TypeIs (.str x t) "str" := rfl
  unfold asIndex
  show wpAny M A (do let a ← asInt? (.str x t); _) Q E s
  unfold asInt?
  have h1 := lk_str_index
  have h2 : notAStandIn (.str x t) = pure () := rfl
  refine wpAny_bind (wpAny_bind (wpAny_of_eq h2 (wpAny_pure ?_)))
  dsimp only
  refine wpAny_bind (wpAny_callSpecial?_none hT lk_str_index ?_)
  dsimp only
  unfold typeNameOfCut shownTypeOf
  refine wpAny_bind (wpAny_bind (wpAny_bind (wpAny_typeOf hT ?_)))
  rw [if_neg (by decide)]
  refine wpAny_pure ?_
  refine wpAny_of_eq (a := shownName "str") rfl ?_
  rw [shown_str]
  exact raise_made hh h
/-- x in bytes, x a text -/
theorem contains_bytes {b : Array UInt8} {t : Tok} {x : Str} {u : Tok} {prog : Program} {w : World} {Q : Bool → Shared → Prop} (hh : A.handled = none) (h : ∀ s' e, Exc base "TypeError" "a bytes-like object is required, not 'str'" .new s s' e → E (.ref e) s') : wpAny (model prog w) A (contains (.bytes b t) (.str x u)) Q E s := by
  refine contains_slot (T := "bytes") rfl slot_bytes_contains (wpAny_call_entry slot_bytes_contains rfl entry_bytes_contains ?_ (args_bytes_contains _ _))
  show wpAny (model prog w) A.in1 (do ret (.bool (← Builtin.Bytes.containsIn "bytes.__contains__" (.bytes b t) (.str x u)))) _ _ s
  refine wpAny_bind ?_
  unfold Builtin.Bytes.containsIn
  refine wpAny_bind (wpAny_attempt (asIndex_str (base := base) hh fun s₁ e₁ x₁ => ?_))
  refine wpAny_bind (buffer_bytes ?_)
  dsimp only
  refine wpAny_bind (buffer_str ?_)
  dsimp only
  refine wpAny_bind (wpAny_rule (wpAny_bind (wpAny_typeNameOf' (T := "str") rfl (by decide) ?_)))
  rw [shown_str]
  exact raise_made (base := base) hh fun s₂ e₂ x₂ => h s₂ e₂ (x₂.of_stp x₁.stp)
end
section
variable {G : Gr} {n : Nat}
theorem CmpX.notIn_bytes {y : Str} {b : Array UInt8} : CmpX G n .NotIn (.str y) (.bytes b) "TypeError" "a bytes-like object is required, not 'str'" := fun ok A s va vb r k f ra rb => by
  cases ra; cases rb
  show wpAny G.M A (do return Value.bool (!(← contains (.bytes b _) _))) _ _ s
  exact wpAny_bind (contains_bytes r.handled fun s' e x => ⟨e, .new, rfl, .inl rfl, x⟩)
end
end Mine
end
section
open PySem PySem.W PyProof.Rows PySem.Calls
set_option maxRecDepth 100000
namespace Mine
section
variable {G : Gr} {n : Nat} {env : Env} {σ : St} {fp : Addr → Prop} {H : Around → Heap → Prop} {X : String} {msg : Str}
/-- what a loop over a given iterator leaves -/
def LoopEnd (G : Gr) (env : Env) (σ : St) (ok : Addr → Prop) (I : Addr) (J : St → Prop) (s s' : Shared) : Prop :=
  ∃ σ', J σ' ∧ Inv G.base ok env σ' s'.heap ∧ ExtBut G.base (fun a => Wr env σ a ∨ a = I) s.heap s'.heap ∧ s'.os = s.os ∧ GensKeep s.gens s'.gens ∧ G.base.StaysIn s'.heap ∧ ∀ a ∈ owned σ', a ∈ owned σ ∨ s.heap.get? a = none
def LoopRaise (G : Gr) (env : Env) (H : Around → Heap → Prop) (σ : St) (I : Addr) (X : String) (msg : Str) (A : Around) (Sm : Shared → Prop) (s : Shared) (x : Value) (s' : Shared) : Prop :=
  ∃ s₁ e, x = .ref e ∧ Mv G.base (fun a => Wr env σ a ∨ a = I) s s₁ ∧ Frame env s₁.heap ∧ H A s₁.heap ∧ Sm s₁ ∧ Exc G.base X msg (.at env.locals) s₁ s' e
theorem MvI.mv {base : Heap} {I : Addr} {W : Addr → Prop} {s s₁ s₂ : Shared} (m : Mv base (fun a => W a ∨ a = I) s s₁) (i : MvI base (· = I) (fun _ => False) s₁ s₂) (h1 : (s₁.heap.get? I).isSome = true) (h2 : (s₂.heap.get? I).isSome = true) : Mv base (fun a => W a ∨ a = I) s s₂ := by
  refine ⟨fun b o w e => ?_, fun b e => ?_, i.os.trans m.os, ⟨fun j x e => i.gkeep j x (fun z => z.elim) (m.gens.keep j x e), fun q => i.gbare (m.gens.bare q)⟩⟩
  · obtain ⟨o', e', c', d', k'⟩ := m.ext b o w e
    obtain ⟨o'', e'', c'', d'', k''⟩ := i.ext b o' (fun z => w (.inr z)) e'
    refine ⟨o'', e'', c''.trans c', d''.trans d', fun q => ?_⟩
    have := k' q; subst this
    exact k'' q
  · by_cases z : b = I
    · subst z; rw [e] at h2; cases h2
    · exact m.dom b (i.dom b z e)
theorem Mv.andI {base : Heap} {I : Addr} {W W' : Addr → Prop} {a b c : Shared} (x : Mv base (fun a => W a ∨ a = I) a b) (y : Mv base W' b c) (h : ∀ p, W' p → W p ∨ a.heap.get? p = none) : Mv base (fun a => W a ∨ a = I) a c := x.trans y fun p q => (h p q).imp .inl id
/-- for over an iterator that stood before; the body raises at the m-th item, or never -/
theorem loopX {target : Expr} {x : Str} {p pos : Pos} {body : List Stmt} {I : Addr} {ds : List D} {f : D → St → St} {okc : Addr → Prop} {Sx : Nat → Shared → Prop} {ok : Addr → Prop} {A : Around} {s : Shared} {l : List Env} {Q : Flow → Shared → Prop} {E : Value → Shared → Prop}
    (R : Rd G.base env fp H) (hHS : ∀ A h, H A h → HS G.base env l A h) (W : Itr G A okc target I ds (· = I) (· = I) (fun _ => False) Sx) (hS : Sx 0 s) (q : H A s.heap) (r : Room n A) (k : G.base.StaysIn s.heap) (i : Inv G.base ok env σ s.heap)
    (hl : σ.lookup x = some (.val (.raw (.ref I)))) (hIwr : ¬ Wr env σ I) (hIb : G.base.get? I = none) (hIf : ¬ fp I) (hIok : ok I) (hokc : ∀ a, okc a → okO ok σ a ∧ (s.heap.get? a).isSome = true)
    (ht : ∀ d ∈ ds, AssD G n env target d (f d)) (J : Nat → St → Prop) (h0 : J 0 σ) (m : Nat)
    (turn : ∀ j d σ₁, j ≠ m → ds[j]? = some d → J j σ₁ → Ex G n env (f d σ₁) body fun fl σ₂ => fl = .next ∧ J (j + 1) σ₂)
    (last : ∀ d σ₁, ds[m]? = some d → J m σ₁ → ExX G n env H (f d σ₁) body X msg)
    (done : ∀ s', LoopEnd G env σ ok I (J ds.length) s s' → Q .next s')
    (raises : m < ds.length → ∀ v s', LoopRaise G env H σ I X msg A (Sx (m + 1)) s v s' → E v s')
    (hd1 : (x == ("__debug__" : Str)) = false := by decide) (hc1 : (x == ("__classdict__" : Str)) = false := by decide) (hs : ∀ v, foldedSetIterable (.Name x p) env v = pure v := by intro _; rfl) :
    wpAny G.M A (exec (.For target (.Name x p) body [] pos) env) Q E s := by
  obtain ⟨v, hv, rv⟩ := i.vals x _ hl
  have hvI : v = .ref I := by cases rv; rfl
  subst hvI
  refine wpAny_For (wpAny_holds i.frame.kind hv (W.self 0 s _ _ hS ?_) hd1 hc1) hs
  refine codeAny_forLoop_any (fun mm s' => ∃ j σ₁, j ≤ ds.length ∧ mm = ds.length + 1 - j ∧ J j σ₁ ∧ Sx j s' ∧ Inv G.base ok env σ₁ s'.heap ∧ Mv G.base (fun a => Wr env σ a ∨ a = I) s s' ∧ H A s'.heap ∧ G.base.StaysIn s'.heap ∧
    (∀ a ∈ owned σ₁, a ∈ owned σ ∨ s.heap.get? a = none) ∧ ∀ b, b ≠ I → s'.heap.get? b = none → s.heap.get? b = none) ?_ (ds.length + 1) ⟨0, σ, Nat.zero_le _, by omega, h0, hS, i, Stp.refl.mv, q, k, fun a w => .inl w, fun _ _ e => e⟩
  rintro mm s' ⟨j, σ₁, hj, rfl, hJ, hSx, hinv, hmv, hq, hk, how, hdom⟩
  have hIs : (s.heap.get? I).isSome = true := (W.node 0 s I hS rfl).2
  have hIw1 : ¬ Wr env σ₁ I := fun w => by
    rcases w with w | w
    · exact hIwr (.inl w)
    · rcases how I w with w | w
      · exact hIwr (.inr w)
      · rw [w] at hIs; cases hIs
  have hok1 : ∀ a, okc a → okO ok σ₁ a := fun a z => ⟨(hokc a z).1.1, fun w => (how a w).elim (hokc a z).1.2 fun y => by have := (hokc a z).2; rw [y] at this; cases this⟩
  by_cases hlt : j < ds.length
  · have hd : ds[j]? = some ds[j] := List.getElem?_eq_getElem hlt
    refine wpAny_mono (W.item j ds[j] s' _ (okO ok σ₁) hd hSx hk hok1 hinv.freshO) (fun r' s₃ z => ?_) fun _ _ x => x
    obtain ⟨v, rfl, z⟩ := z
    refine wpAny_mono z (fun _ s₄ z => ?_) fun _ _ x => x
    obtain ⟨rp, hSx', mi⟩ := z
    have inv₄ := hinv.mvI mi (fun a e => e ▸ hIw1) (fun a e => e ▸ (W.node j s' I hSx rfl).1) fun b e => e ▸ hIok
    have mv₄ := MvI.mv hmv mi (W.node j s' I hSx rfl).2 (W.node (j + 1) s₄ I hSx' rfl).2
    have hq₄ : H A s₄.heap := R.keep A _ _ hq fun b hb o e => mi.ext b o (fun z => hIf (z ▸ hb)) e
    have hk₄ := mv₄.base k fun b w => w.elim (i.off b) fun e => e ▸ hIb
    refine wpAny_mono (ht ds[j] (List.getElem_mem hlt) σ₁ ok A s₄ _ v r hk₄ inv₄ rp) (fun _ s₅ z => ?_) fun _ _ x => x
    obtain ⟨inv₅, mv₅, ow₅⟩ := z
    have up : ∀ a, Wr env σ₁ a → Wr env σ a ∨ s.heap.get? a = none := fun a w => by
      rcases w with w | w
      · exact .inl (.inl w)
      · exact (how a w).imp .inr id
    have mv₅' := mv₄.andI mv₅ up
    have hq₅ : H A s₅.heap := R.mv inv₄ mv₅ hq₄
    have hk₅ := mv₅'.base k fun b w => w.elim (i.off b) fun e => e ▸ hIb
    have hSx₅ : Sx (j + 1) s₅ := W.frame (j + 1) s₄ s₅ _ hSx' mv₅ (fun a z w => hIw1 (z ▸ w)) fun a z nd w => by
      rcases w with w | w
      · exact node_not_frame inv₄.frame nd w
      · exact (hok1 a z).2 w
    have up5 : ∀ a, Wr env (f ds[j] σ₁) a → Wr env σ a ∨ s.heap.get? a = none := fun a w => by
      rcases w with w | w
      · exact .inl (.inl w)
      · exact up a (.inr (ow₅ a w))
    have hIw5 : ¬ Wr env (f ds[j] σ₁) I := fun w => by
      rcases w with w | w
      · exact hIw1 (.inl w)
      · exact hIw1 (.inr (ow₅ I w))
    have dom₅ : ∀ b, b ≠ I → s₅.heap.get? b = none → s.heap.get? b = none := fun b nz e => hdom b nz (mi.dom b nz (mv₅.dom b e))
    by_cases hm : j = m
    · subst hm
      refine wpAny_mono (last ds[j] σ₁ hd hJ ok A s₅ hq₅ r hk₅ inv₅) (fun _ _ z => z.elim) fun v s₆ z => ?_
      obtain ⟨s₁, e, w, rfl, hw, mv₆, fr₁, h₁, ex⟩ := z
      have hS1 := hHS A _ h₁
      have off : G.base.get? env.locals = none := i.off _ (.inl (.inl rfl))
      have K := hS1.stk fr₁ off
      have hSx₁ : Sx (j + 1) s₁ := W.frame (j + 1) s₅ s₁ _ hSx₅ mv₆ (fun a z w => hIw5 (z ▸ w)) fun a z nd w => by
        rcases w with w | w
        · exact node_not_frame inv₅.frame nd w
        · exact (hok1 a z).2 (ow₅ a w)
      refine ex.note K hS1.2.1 (fun L' z => ?_) fun s₇ ex₇ => ?_
      · rcases hw with hw | hw | ⟨L'', hw, hL⟩
        · rw [hw] at z; cases z
        · rw [hw] at z; cases z
        · rw [hw] at z; cases z; rw [hS1.2.1] at hL; cases hL; rfl
      · exact ex₇.back hS1.2.1 fun s₈ ex₈ => raises hlt _ _ ⟨s₁, e, rfl, mv₅'.andI mv₆ up5, fr₁, h₁, hSx₁, ex₈⟩
    · refine wpAny_mono (turn j ds[j] σ₁ hm hd hJ ok A s₅ _ r hk₅ inv₅) (fun fl s₆ z => ?_) fun _ _ x => x
      obtain ⟨fl', σ₂, ⟨rfl, hJ'⟩, fi, inv₆, mv₆, hk₆, ow₆⟩ := z
      cases fl <;> first | exact fi.elim | skip
      refine ⟨ds.length + 1 - (j + 1), by omega, j + 1, σ₂, hlt, rfl, hJ', W.frame (j + 1) s₅ s₆ _ hSx₅ mv₆ (fun a z w => hIw5 (z ▸ w)) (fun a z nd w => ?_), inv₆, mv₅'.andI mv₆ up5, R.mv inv₅ mv₆ hq₅, hk₆, fun a w => ?_, fun b nz e => dom₅ b nz (mv₆.dom b e)⟩
      · rcases w with w | w
        · exact node_not_frame inv₅.frame nd w
        · exact (hok1 a z).2 (ow₅ a w)
      · rcases ow₆ a w with w | w
        · exact how a (ow₅ a w)
        · exact .inr (dom₅ a (fun z => by have := (W.node _ _ a hSx₅ z).2; rw [w] at this; cases this) w)
  · have hjl : j = ds.length := by omega
    subst hjl
    refine wpAny_mono (W.done s' _ hSx hk) (fun r' s₃ z => ?_) fun _ _ x => x
    obtain ⟨rfl, mi⟩ := z
    have inv₃ := hinv.mvI mi (fun a e => e ▸ hIw1) (fun a e => e ▸ (W.node _ s' I hSx rfl).1) fun b e => e ▸ hIok
    refine wpAny_execs_nil (done _ ⟨σ₁, hJ, inv₃, fun b o w e => ?_, mi.os.trans hmv.os, ⟨fun jj xx e => mi.gkeep jj xx (fun z => z.elim) (hmv.gens.keep jj xx e), fun z => mi.gbare (hmv.gens.bare z)⟩, ?_, fun a w => how a w⟩)
    · obtain ⟨o', e', c', d', k'⟩ := hmv.ext b o w e
      obtain ⟨o'', e'', c'', d'', k''⟩ := mi.ext b o' (fun z => w (.inr z)) e'
      refine ⟨o'', e'', c''.trans c', d''.trans d', fun q => ?_⟩
      have := k' q; subst this
      exact k'' q
    · intro b o e
      have hbI : b ≠ I := fun z => by rw [z, hIb] at e; cases e
      obtain ⟨o'', e'', _, _, k''⟩ := mi.ext b o hbI (hk b o e)
      rw [e'', k'' (.inl (by rw [e]; rfl))]
end
end Mine
end
section
open PySem PySem.W PyProof.Rows PySem.Calls
set_option maxRecDepth 100000
namespace Mine
theorem entry_unchain : entryFor table "proto.unchain" = some Builtin.«proto.unchain» := entryFor_of_fast (by kernel_rfl)
section
variable {prog : Program} {w : World} {A : Around} {E : Value → Shared → Prop} {s : Shared}
/-- the end of a list's iterator while an exception is handled that has no other behind it -/
theorem next_endH {it l e : Addr} {i : Nat} {items : Array Value} {oe : Obj} {vs : Array Value} {Q : Option Value → Shared → Prop} (hh : A.handled = some (.ref e)) (he : s.heap.get? e = some oe) (hde : oe.data = .fields vs) (h2 : vs[2]? = some .none) (hei : e ≠ it)
    (hit : s.heap.IsListIter it l i) (hl : s.heap.IsList l items) (hx : items[i]? = none)
    (hQ : ∀ h', (∀ b o, b ≠ it → s.heap.get? b = some o → h'.get? b = some o) → Q none { s with heap := h' }) : wpAny (model prog w) A (pyNext (.ref it)) Q E s := by
  obtain ⟨o, ho, hc, hd⟩ := id hit
  obtain ⟨ol, hol, _, nl, hdl⟩ := hl
  unfold pyNext
  refine wpAny_bind (wpAny_attempt (wpAny_callSpecial?_slot (name := Str.ofString "__next__") hit.typeIs slot_listiter_next
    (wpAny_call_entry slot_listiter_next hit.typeIs entry_listiter_next ?_ (args_listiter_next _))))
  show wpAny _ _ (field (.ref it) 0 >>= _) _ _ s
  refine wpAny_bind (wpAny_field ho hd (x := .ref l) rfl ?_)
  show wpAny _ _ (if (Value.ref l == Value.none) = true then _ else _) _ _ s
  rw [if_neg (show ¬ ((Value.ref l == Value.none) = true) from Bool.false_ne_true)]
  show wpAny _ _ (field (.ref it) 1 >>= _) _ _ s
  refine wpAny_bind (wpAny_field ho hd (x := .int i 0) rfl ?_)
  show wpAny _ _ (seqItems? (.ref l) >>= _) _ _ s
  refine wpAny_bind (wpAny_seqItems hol hdl ?_)
  simp only [Int.toNat_natCast, hx]
  refine wpAny_bind (wpAny_rule (wpAny_bind (wpAny_setField ho hd (by simp) ?_)))
  have hu : ∀ b, b ≠ it → (s.heap.update it (Obj.mapFields (·.setIfInBounds 0 Value.none))).get? b = s.heap.get? b := fun b hb => Heap.get?_update_other _ _ (Ne.symm hb)
  generalize (s.heap.update it (Obj.mapFields (·.setIfInBounds 0 Value.none))) = h₁ at hu
  have he₁ : h₁.get? e = some oe := (hu e hei).trans he
  show wpAny _ _ (newExc (.type "StopIteration") [] >>= _) _ _ _
  refine wpAny_bind ?_
  simp only [newExc, newTuple]
  refine wpAny_bind (wpAny_newObj_type ?_ (by size_fits))
  refine wpAny_bind (m := firstArgMember _ _) (wpAny_of_eq (a := Value.none) (by first | rfl | (simp only [firstArgMember]; rfl)) ?_)
  refine wpAny_newObj_type ?_ (by size_fits)
  simp only [raiseNew]
  refine wpAny_bind (wpAny_handled ?_)
  rw [show A.in1.handled = some (.ref e) from hh]
  generalize hS : ({ cls := .type "StopIteration", data := .fields (#[.ref h₁.objs.size, .none, .none, .none, .bool false, .none] ++ ownMembersOf (.type "StopIteration") []) } : Obj) = oS
  generalize hT : ({ cls := .type "tuple", data := .seq ([] : List Value).toArray } : Obj) = oT
  have hsz : (h₁.push oT).objs.size = h₁.objs.size + 1 := Heap.size_push ..
  have hSf : oS.isFreed = false := by rw [← hS]; rfl
  have hSd : oS.data = .fields (#[.ref h₁.objs.size, .none, .none, .none, .bool false, .none] ++ ownMembersOf (.type "StopIteration") []) := by rw [← hS]
  have gS : ((h₁.push oT).push oS).get? (h₁.push oT).objs.size = some oS := Heap.get?_push_size _ hSf
  have ge : ((h₁.push oT).push oS).get? e = some oe := Heap.get?_push_of_some _ (Heap.get?_push_of_some _ he₁)
  have hne : (Value.ref e != Value.ref (h₁.push oT).objs.size) = true := by
    have : e ≠ (h₁.push oT).objs.size := fun z => by have h9 := Heap.lt_size he₁; rw [z, hsz] at h9; exact absurd h9 (Nat.not_lt.mpr (Nat.le_succ _))
    simpa using this
  show wpAny _ _ (if (Value.ref e != Value.ref (h₁.push oT).objs.size) = true then _ else _) _ _ _
  rw [if_pos hne]
  refine wpAny_bind (wpAny_holding (wpAny_runValue (codeAny_builtin entry_unchain ?_)))
  unfold Builtin.«proto.unchain»
  refine wpAny_bind (wpAny_field ge hde h2 ?_)
  show wpAny _ _ (if (Value.none == Value.none) = true then _ else _) _ _ _
  rw [if_pos (show (Value.none == Value.none) = true from rfl)]
  refine wpAny_pure ?_
  unfold updateField
  refine wpAny_bind (wpAny_bind (wpAny_load gS ?_))
  rw [hSd]
  show wpAny _ _ (if 2 < _ then _ else _) _ _ _
  rw [if_pos (by rw [Array.size_append]; exact Nat.lt_of_lt_of_le (by decide : 2 < 6) (Nat.le_add_right _ _))]
  refine wpAny_update gS ?_
  refine wpAny_throw ?_
  have hSu := Heap.get?_update_self (Obj.mapFields (·.setIfInBounds 2 (Value.ref e))) gS (Obj.isFreed_of_fields (Obj.data_mapFields hSd _))
  refine wpAny_bind (wpAny_isInstance (T := "StopIteration") (b := true) ⟨_, hSu, by rw [Obj.cls_mapFields, ← hS]⟩ isSubtype_stop ?_)
  refine wpAny_pure (hQ _ fun b o hb q => ?_)
  have q' := (hu b hb).trans q
  have hbn : (h₁.push oT).objs.size ≠ b := fun z => by have h9 := Heap.lt_size q'; rw [← z, hsz] at h9; exact absurd h9 (Nat.not_lt.mpr (Nat.le_succ _))
  rw [Heap.get?_update_other _ _ hbn]
  exact Heap.get?_push_of_some _ (Heap.get?_push_of_some _ q')
end
end Mine
end
section
open PySem PySem.W PyProof.Rows PySem.Calls
set_option maxRecDepth 100000
namespace Mine
section
variable {prog : Program} {w : World} {A : Around} {E : Value → Shared → Prop} {s : Shared}
/-- a list's iterator from a place on, while an exception is handled -/
theorem walksH {e : Addr} (hh : A.handled = some (.ref e)) (I ax : Addr) (hne : ax ≠ I) (hei : e ≠ I) (items : Array Value) (k : Nat) (hk : k ≤ items.size) :
    Walks prog w A I [I, ax, e] [I] (items.size - k) (fun i v => items[k + i]? = some v) (fun i h => h.IsListIter I ax (k + i) ∧ h.IsList ax items ∧ ∃ oe vs, h.get? e = some oe ∧ oe.data = .fields vs ∧ vs[2]? = some .none) where
  sub := fun b hb => by simp at hb; simp [hb]
  frame := fun _ _ _ st hk => ⟨st.1.at fun o e => hk I (by simp) o e, st.2.1.at fun o e => hk ax (by simp) o e, let ⟨oe, vs, a, b, c⟩ := st.2.2; ⟨oe, vs, hk e (by simp) oe a, b, c⟩⟩
  item := fun i s Q E hi st hQ => by
    have hlt : k + i < items.size := by omega
    refine wpAny_pyNext_list_item st.1 st.2.1 (x := items[k + i]) (by simp [hlt]) fun h' hit' hs' => ?_
    refine hQ _ h' s.toks (by simp [hlt]) ⟨hit', st.2.1.extBut hs'.extBut hne, ?_⟩ fun b o hb e => hs'.extBut b o (fun h => hb (by simp [h])) e
    obtain ⟨oe, vs, a, b, c⟩ := st.2.2
    exact ⟨oe, vs, hs'.extBut e oe hei a, b, c⟩
  done := fun s Q E st hQ => by
    obtain ⟨oe, vs, a, b, c⟩ := st.2.2
    exact next_endH hh a b c hei st.1 st.2.1 (by rw [Array.getElem?_eq_none]; omega) fun h' kk => hQ h' s.toks fun b o hb q => kk b o (fun z => hb (by simp [z])) q
  self := fun i s Q E st hQ => wpAny_pyIter_listiter st.1 hQ
theorem extend_it {R : Result → Shared → Prop} {I S : Addr} {fp wr : List Addr} {GG : Array GenState → Array GenState → Prop} {n c₀ : Nat} {P : Nat → Value → Prop} {St : Nat → Shared → Prop} {res : Value} (W : WalksS prog w A.in1 I fp wr GG n P St) (hT : ∀ i s, St i s → s.TypeIs (.ref I) "list_iterator") (hn : n ≤ sizeLine)
    (hst : St 0 s) (hSf : S ∉ fp) (hSI : S ≠ I) (hS : s.heap.get? S = some { cls := .type "list", data := .seq #[] c₀ })
    (hR : ∀ s' acc' c', Moved (S :: wr) GG s s' → s'.heap.get? S = some { cls := .type "list", dict := none, data := .seq acc' c', slots := #[] } → ItemsOf P acc' n → R (.ok (.ret res)) s') :
    wpAny (model prog w) A.in1 (Builtin.List.listExtendWith (.ref S) (.ref I) res)
      (fun fin s' => match fin with | .done f => R (.ok f) s' | .again c' => c'.quiet = true ∧ codeAny (model prog w) A c' R s') (fun e s' => R (.error e) s') s := by
  have h1 : Builtin.List.listSameRef (.ref S) (.ref I) = false := by simp [Builtin.List.listSameRef, hSI]
  unfold Builtin.List.listExtendWith
  refine wpAny_bind (wpAny_typeOf (hT 0 _ hst) ?_)
  rw [if_neg (by rw [h1]; decide)]
  refine wpAny_bind (W.self 0 _ _ _ hst ?_)
  refine wpAny_bind (wpAny_holding ?_)
  unfold Builtin.List.listLengthHint
  refine wpAny_bind (wpAny_specialOf (hT 0 _ hst) F.nolen_li ?_)
  show wpAny _ A.in1 (specialOf (Value.ref I) (Str.ofString "__length_hint__") >>= _) _ _ _
  refine wpAny_bind (wpAny_specialOf (hT 0 _ hst) F.hint_li ?_)
  generalize hid : ("list_iterator.__length_hint__" : String) = id0
  wp_delta
  rw [show splitId id0 = some ("list_iterator", "__length_hint__") from by subst hid; decide +kernel]
  subst hid
  refine wpAny_bind (wpAny_isInstance (b := true) (hT 0 _ hst) (by rw [isSubtype_type]; kernel_rfl) ?_)
  refine wpAny_pure ?_
  rw [if_neg (by decide)]
  exact wpAny_pure ⟨plainId_quiet F.plain_extend_loop _, codeAny_extend_loopS W hn _ hSf _ n 0 _ _ _ rfl (Nat.zero_le _) hst hS (ItemsOf.nil P) hR⟩
theorem call_list_it {I : Addr} {fp wr : List Addr} {n : Nat} {P : Nat → Value → Prop} {St : Nat → Heap → Prop} {Q : Value → Shared → Prop} (W : Walks prog w A.in1.in1 I fp wr n P St) (hT : ∀ i (s : Shared), St i s.heap → s.TypeIs (.ref I) "list_iterator") (hn : n ≤ sizeLine)
    (hst : St 0 s.heap) (hI : I ∈ fp) (hfp : ∀ b ∈ fp, b < s.heap.objs.size) (hwr : ∀ b ∈ wr, b = I)
    (hQ : ∀ h' tk acc' c', (∀ b o, b ≠ I → s.heap.get? b = some o → h'.get? b = some o) →
      h'.get? s.heap.objs.size = some { cls := .type "list", dict := none, data := .seq acc' c', slots := #[] } → ItemsOf P acc' n → Q (.ref s.heap.objs.size) { s with heap := h', toks := tk }) :
    wpAny (model prog w) A (call (.type "list") [.ref I]) Q E s := by
  refine callType_codes (Q₁ := fun obj s₁ => obj = .ref s.heap.objs.size ∧ s₁ = { s with heap := s.heap.push { cls := .type "list", data := .seq #[] } }) F.called_list (F.typeCall_list_1 _) F.entry_list_init
    (code_list_new _ ⟨rfl, rfl⟩) fun obj s₁ h₁ => ?_
  obtain ⟨rfl, rfl⟩ := h₁
  have hS : (s.heap.push { cls := .type "list", data := .seq #[] }).get? s.heap.objs.size = some { cls := .type "list", data := .seq #[] } := Heap.get?_push_size _ rfl
  have hSf : s.heap.objs.size ∉ fp := fun hm => Nat.lt_irrefl _ (hfp _ hm)
  have hSI : s.heap.objs.size ≠ I := fun z => hSf (z ▸ hI)
  refine ⟨⟨_, hS, rfl⟩, F.args_list_init_2 _ _, ?_⟩
  show wpAny _ _ (do let old ← Builtin.List.listItems (.ref s.heap.objs.size); Builtin.List.listUpdate (.ref s.heap.objs.size) (fun _ => #[]); letGo old.toList.reverse; Builtin.List.listExtendWith (.ref s.heap.objs.size) (.ref I) .none) _ _ _
  refine wpAny_bind ?_
  unfold Builtin.List.listItems
  refine wpAny_bind (wpAny_seqItems hS rfl (wpAny_pure ?_))
  show wpAny _ _ (updateSeq s.heap.objs.size (fun _ => #[]) >>= fun _ => letGo (#[] : Array Value).toList.reverse >>= fun _ => Builtin.List.listExtendWith (.ref s.heap.objs.size) (.ref I) .none) _ _ _
  refine wpAny_bind (wpAny_updateSeq hS rfl ?_)
  have hS₂ := Heap.get?_update_self (Obj.mapSeq (fun _ => (#[] : Array Value))) hS rfl
  have oth : ∀ b o, s.heap.get? b = some o → ((s.heap.push { cls := .type "list", data := .seq #[] }).update s.heap.objs.size (Obj.mapSeq (fun _ => (#[] : Array Value)))).get? b = some o :=
    fun b o e => (Heap.get?_update_other _ _ (Nat.ne_of_gt (Heap.lt_size e))).trans (Heap.get?_push_of_some _ e)
  refine wpAny_bind (wpAny_letGo ?_)
  refine extend_it (A := A.in1) W.toS (fun i s h => hT i s h) hn (W.frame 0 s.heap _ hst fun b _ o e => oth b o e) hSf hSI hS₂ fun s' acc' c' hm hS' hacc => ?_
  refine ⟨rfl, ?_⟩
  have e9 := Moved.eq_with hm
  rw [e9]
  refine hQ s'.heap s'.toks acc' c' (fun b o hb e => hm.heap b o (fun hmem => ?_) (oth b o e)) hS' hacc
  rcases List.mem_cons.mp hmem with e' | hmem
  · exact absurd (Heap.lt_size e) (by rw [e']; exact Nat.lt_irrefl _)
  · exact hb (hwr b hmem)
end
end Mine
end
section
open PySem PySem.W PyProof.Rows PySem.Calls
set_option maxRecDepth 100000
namespace Mine
theorem rep_flat (l : List Nat) : ∀ (n : Nat) (acc : Array Nat), ((List.replicate n l.toArray).foldl (· ++ ·) acc) = acc ++ (List.replicate n l).flatten.toArray
  | 0, acc => by simp
  | n + 1, acc => by rw [List.replicate_succ, List.foldl_cons, rep_flat l n, List.replicate_succ, List.flatten_cons]; simp
theorem entry_iter : entryFor table "iter" = some Builtin.«iter» := entryFor_of_tree (by kernel_rfl)
theorem args_iter (a : Value) : argsOk "iter" ⟨[a], []⟩ := by unfold argsOk; kernel_rfl
section
variable {G : Gr} {n : Nat} {env : Env} {σ : St} {sc : Scope}
theorem Ev.bytes {b : List UInt8} {k : Nat} {p : Pos} : Ev G n env σ (.Constant (.bytes b) k p) (.bytes b.toArray) := fun _ _ s _ _ _ _ =>
  (fun Γ p' hΓ => (⟨.tok, .bytes _ _⟩ : Stp G.base s { s with toks := s.toks + 1 } ∧ Rep _ _ (.bytes b.toArray s.toks) (.bytes b.toArray)))
theorem BinD.mul_str {l : List Nat} {k : Int} (h0 : 0 ≤ k) (h1 : k ≤ 100000) (h2 : l.length ≤ 100) : BinD G n .Mult (.str (S l)) (.int k) (.str (S (List.replicate k.toNat l).flatten)) := fun ok A s E va vb r kb f ra rb => by
  cases ra; cases rb
  refine P.mul_str (by rw [decide_eq_false (by omega), decide_eq_false (by omega)]; rfl) (fun h _ => ?_) (fun h _ => ?_) ?_
  · rw [S_length]
    have : (100 : Int) ≤ (2 ^ 63 - 1) / k := by
      rw [Int.le_ediv_iff_mul_le (by omega)]; omega
    omega
  · rw [S_length]
    unfold Builtin.Str.tooLong sizeLine
    have : l.length * k.toNat ≤ 100 * 100000 := Nat.mul_le_mul h2 (by omega)
    simp; omega
  · split
    · have : k.toNat = 0 := by omega
      rw [this]
      exact ⟨by decide, .tok, .str _ _⟩
    · split
      · rename_i hk h1'
        rw [S_length] at h1'
        have e : S (List.replicate k.toNat l).flatten = S l := by
          rcases Bool.or_eq_true_iff.mp h1' with z | z
          · have : k.toNat = 1 := by have := beq_iff_eq.mp z; omega
            rw [this]; simp
          · have : l = [] := List.eq_nil_of_length_eq_zero (by simpa using z)
            rw [this]; simp
        rw [e]
        exact ⟨.refl, .str _ _⟩
      · have e := rep_flat l k.toNat #[]
        refine ⟨?_, ?_⟩
        · show ((List.replicate k.toNat (S l).cps).foldl (· ++ ·) #[]).size ≤ sizeLine
          rw [show (S l).cps = l.toArray from rfl, e]
          simp only [Array.empty_append, List.size_toArray]
          rw [List.length_flatten]
          simp only [List.map_replicate, List.sum_replicate_nat]
          have : k.toNat * l.length ≤ 100000 * 100 := Nat.mul_le_mul (by omega) h2
          unfold sizeLine; omega
        · refine ⟨.tok, ?_⟩
          rw [show (S l).cps = l.toArray from rfl, e]
          simp only [Array.empty_append]
          exact .str _ _
theorem CallD.tupleOf {ds : List D} (hz : ds.length ≤ sizeLine) : CallD G n (.type "tuple") [.list ds] (.tuple ds) := fun ok A s E vs r k f rs => by
  cases rs with
  | cons a rs =>
    cases rs
    cases a with
    | @list a vs _ o l rr =>
      refine call_tuple_list l (fun h' hk => ?_) (by rw [List.size_toArray, rr.length]; exact hz)
      have st : Stp G.base s { s with heap := h', toks := s.toks } := .heap hk
      have st2 : Stp G.base { s with heap := h' } { s with heap := h'.push { cls := .type "tuple", data := .seq vs.toArray }, toks := s.toks } := .push (s := { s with heap := h' })
      refine ⟨st.trans st2, .tuple (f _ (st.ext.none fresh_get)) ⟨_, Heap.get?_push_size _ rfl, rfl, _, rfl⟩ ((rr.stp st).stp st2)⟩
theorem CallD.type_list {ds : List D} : CallD G n (.type "type") [.list ds] (.raw (.type "list")) := fun ok A s E vs r k f rs => by
  cases rs with
  | cons a rs =>
    cases rs
    cases a with
    | list o l rr =>
      obtain ⟨ob, ho, hc, _⟩ := l
      exact call_type_obj ho (by rw [hc]; decide) (by rw [hc]; exact ⟨.refl, .raw _⟩)
theorem CmpD.isNot_type {T U : String} : CmpD G n .IsNot (.raw (.type T)) (.raw (.type U)) (!(Value.type T == Value.type U)) := fun ok A s E va vb r k f ra rb => by
  cases ra; cases rb
  exact wpAny_isNot_plain rfl ⟨.refl, rfl⟩
/-- a list of the frame's own is no other thing -/
theorem Tr.isOwn {x y : Str} {p q pos : Pos} {a : Addr} {ds es : List D} (hx : σ.lookup x = some (.own a ds)) (hy : σ.lookup y = some (.val (.list es)))
    (hd : (x == ("__debug__" : Str)) = false := by decide) (hc : (x == ("__classdict__" : Str)) = false := by decide) (hd2 : (y == ("__debug__" : Str)) = false := by decide) (hc2 : (y == ("__classdict__" : Str)) = false := by decide) (hm : behindInMarks .Is (.Name y q) = false := by with_unfolding_all rfl) :
    Tr G n env σ (.Compare (.Name x p) [.Is] [.Name y q] pos) false := fun ok A s E r k i => by
  obtain ⟨hv, _, vs, ⟨m, lo⟩, _⟩ := i.owns x a ds hx
  obtain ⟨v, hw, rv⟩ := i.vals y _ hy
  refine wpAny_isTrue_Compare1 (wpAny_holds i.frame.kind hv (wpAny_holds i.frame.kind hw ?_ hd2 hc2) hd hc) hm
  cases rv with
  | list o l rr =>
    obtain ⟨ob, ho, hcl, _⟩ := l
    refine wpAny_is_ref_other (fun z => o.2 (z ▸ owned_of_lookup hx)) lo ho (by simp [W.listOf]) (wpAny_truthy_bool ⟨.refl, rfl⟩)
/-- a call that gives a new list -/
def CallF (G : Gr) (n : Nat) (f : Value) (ds : List D) (rs : List D) : Prop := ∀ ok A s E vs, Room n A → G.base.StaysIn s.heap → FreshOk ok s.heap → RepAll ok s.heap vs ds →
  wpAny G.M A (call f vs) (fun v s' => Stp G.base s s' ∧ ∃ a ws, v = .ref a ∧ s.heap.get? a = none ∧ OwnL s'.heap a ws ∧ RepAll (fun b => ok b ∧ b ≠ a) s'.heap ws rs) E s
theorem CallF.d {f : Value} {ds rs : List D} (h : CallF G n f ds rs) : CallD G n f ds (.list rs) := fun ok A s E vs r k fr q =>
  wpAny_mono (h ok A s E vs r k fr q) (fun v s' p => by
    obtain ⟨st, a, ws, rfl, f, l, rr⟩ := p
    exact ⟨st, .list (fr a f) l.list (rr.weak fun _ z => z.1)⟩) fun _ _ x => x
theorem EvF.call {x : Str} {p pos : Pos} {es : List Expr} {f : Value} {ds rs : List D} (hf : Ev G n env σ (.Name x p) (.raw f)) (c : Callee G f) (ha : EvL G n env σ es ds) (hc : CallF G n f ds rs)
    (hns : noStar es = true := by rfl) (hplain : (backTo pos (starEach es env)).any (·.1) = false := by rfl) : EvF G n env σ (.Call (.Name x p) es [] pos) rs := fun ok A s E r k i =>
  Call_ (wpAny_mono (hf ok A s E r k i) (fun v s₁ p₁ => by
    obtain ⟨st, rp⟩ := p₁
    cases rp
    refine callWith_callee c hplain (wpAny_mono (ha ok A s₁ E pos r (st.ext.base k) (i.ext st.ext)) (fun vs s₂ p₂ => ⟨p₂.1.ext.base (st.ext.base k), ?_⟩) fun _ _ x => x) hns
    have st' := st.trans p₂.1
    refine wpAny_mono (hc _ A s₂ E vs r (st'.ext.base k) (i.ext st'.ext).freshO p₂.2) (fun v s₃ p₃ => ?_) fun _ _ x => x
    obtain ⟨st3, a, ws, rfl, f, l, rr⟩ := p₃
    exact ⟨st'.trans st3, a, ws, rfl, st'.ext.none f, l, rr⟩) fun _ _ x => x)
theorem Ex1.retOwn {x : Str} {p pos : Pos} {a : Addr} {ds : List D} {Q : Fl → St → Prop} (l : σ.lookup x = some (.own a ds)) (q : Q (.ret (.raw (.ref a))) σ) (hd : (x == ("__debug__" : Str)) = false := by decide) (hc : (x == ("__classdict__" : Str)) = false := by decide) : Ex1 G n env σ (.Return (some (.Name x p)) pos) Q := fun ok A s E r k i => by
  obtain ⟨hv, _⟩ := i.owns x a ds l
  exact wpAny_Return_some (wpAny_holds i.frame.kind hv ⟨_, σ, q, .raw _, i, Stp.refl.mv, k, fun _ w => .inl w⟩ hd hc)
theorem CallF.fn1 {d : DefRec} {a : Addr} {d1 : D} {rs : List D} {x : Str} (F : FnAt G d a) (h : ∀ env, FEnv env d.scope → Ex G n env [(x, .val d1)] d.body fun fl σ' => ∃ y b, fl = .ret (.raw (.ref b)) ∧ σ'.lookup y = some (.own b rs))
    (hx : d.params.args.map (·.arg) = [x] := by rfl) (hb : ∀ pm code doc v, bindArgs (docDef d.name d.params d.body d.scope pm code doc) ⟨[v], []⟩ = pure [(x, v)] := by intros; rfl)
    (hkind : (d.params.args.all fun y => d.scope.names.lookup y.arg == some .local || d.scope.names.lookup y.arg == some .cell) = true := by rfl)
    (hco : d.scope.isCoroutine = false := by rfl) (hgen : d.scope.isGenerator = false := by rfl) (hk : d.scope.kind = .function := by rfl) : CallF G (n + 1) (.ref a) [d1] rs := fun ok A s E vs rm k fr q => by
  have hlen : d.params.args.length = 1 := by have := congrArg List.length hx; simpa using this
  refine call_enter (n := n) F (ds := [d1]) (by rw [hlen]; rfl) (fun pm code doc vs hv => ?_) hkind (by rw [hx]; simp) hco hgen hk rm k fr q fun env s₁ FE hfl st inv hfw rm' => ?_
  · match vs, hv with
    | [v], _ => rw [hb, hx]; rfl
  · have hz : (d.params.args.map (·.arg)).zip ([d1].map Slot.val) = [(x, .val d1)] := by rw [hx]; rfl
    rw [hz] at inv
    refine wpAny_mono (h env FE ok _ s₁ (fun _ _ => False) rm' (st.ext.base k) inv) (fun f s₂ q => ?_) fun _ _ x => x.elim
    obtain ⟨fl, σ', ⟨y, b, rfl, hl⟩, fi, i', mv, _, ho⟩ := q
    cases f with
    | ret v =>
      cases fi
      have m2 : Mv G.base (FrW env) s s₂ := ((st.mv (W := FrW env))).trans mv fun b w => .inl (w.elim id fun z => nomatch z)
      obtain ⟨_, _, ws, lw, rw'⟩ := i'.owns y b rs hl
      have hbn : s.heap.get? b = none := (ho b (owned_of_lookup hl)).elim (fun z => nomatch z) fun z => st.ext.none z
      exact ⟨m2.stp hfw, b, ws, rfl, hbn, lw, rw'.weak fun c z => ⟨z.1, fun e => z.2 (e ▸ owned_of_lookup hl)⟩⟩
    | _ => exact fi.elim
/-- a list's iterator -/
theorem Itr.listIter {A : Around} {okc : Addr → Prop} {target : Expr} {I a : Addr} {vs : List Value} {ds : List D} (hh : A.handled = none) (hne : a ≠ I) (hok : okc a) (hlen : vs.length = ds.length) :
    Itr G A okc target I ds (· = I) (· = I) (fun _ => False) (fun i s => (s.heap.IsListIter I a i ∧ s.heap.IsList a vs.toArray) ∧ RepAll okc s.heap vs ds) := by
  refine Itr.of_walks (vs := vs) (ds' := ds) (Walks.list hh I a hne vs.toArray) (by rw [List.size_toArray, hlen]) ?_ ?_ ?_
  · intro b hb
    rcases List.mem_cons.mp hb with rfl | hb
    · exact .inl rfl
    · rw [List.mem_singleton.mp hb]
      exact .inr ⟨hok, fun i h q => .list q.2⟩
  · rintro i h ⟨⟨o', e, c, d⟩, _⟩
    exact ⟨o', _, e, c, by rw [d]; rfl, by decide⟩
  · intro i v d h hd hp rs'
    obtain ⟨u, e, rp⟩ := rs'.get hd
    have : v = u := by
      have h1 : vs[i]? = some v := by simpa using hp
      rw [e] at h1; exact (Option.some.inj h1).symm
    rw [this]; exact rp
theorem call_iter {prog : Program} {w : World} {A : Around} {E : Value → Shared → Prop} {s : Shared} {a : Addr} {items : Array Value} {Q : Value → Shared → Prop} (hl : s.heap.IsList a items)
    (h : Q (.ref s.heap.objs.size) { s with heap := s.heap.push { cls := .type "list_iterator", data := .fields #[.ref a, .int 0 0] } }) : wpAny (model prog w) A (call (.builtin "iter") [.ref a]) Q E s := by
  refine call_function_entry (by decide +kernel) (by decide +kernel) entry_iter (args_iter _) ?_
  unfold Builtin.«iter»
  refine wpAny_bind (m := someArgs "iter" 1 2 _) (wpAny_of_eq (a := [Value.ref a]) (by first | rfl | kernel_rfl!) ?_)
  show wpAny _ _ (pyIter (.ref a) >>= _) _ _ _
  exact wpAny_bind (wpAny_pyIter_list hl (wpAny_pure ⟨_, rfl, h⟩))
end
end Mine
end
section
open PySem PySem.W PyProof.Rows PySem.Calls
set_option maxRecDepth 100000
namespace Mine
section
variable {p : Program} {loose : List Str} {mean : ExcName → Option Value} {mg mb : Str → Option Value} {s₁ : Shared} {prog : Program} {w : World}
/-- the same end for a law that leans on the stack -/
theorem law_finP {c : ClaimW} {cl : Str → Option Addr} {mean' : ExcName → Option Value} {args : List WData} {fa aL : Addr} {vs : List Value} {ns : List Int} {n : Nat} (T : Top p loose mean mg mb s₁.heap) (hL : s₁.heap.IsList aL vs.toArray) (hI : IntsAre vs ns) (hg : s₁.gens = #[])
    (law : CallP (groundOf T prog w) n (.ref fa) [.list (ns.map .int)] (.bool true)) (hn : n ≤ 90) (hr : ∀ cls, c.raises args cls = false) (hp : c.post args (.bool true) args = true) :
    wpAny (model prog w) callerA (call (.ref fa) [.ref aL]) (fun v s' => GoodWG c cl mean' args s₁ (.ok (.ret v)) s') (fun e s' => GoodWG c cl mean' args s₁ (.error e) s') s₁ := by
  have room : Room n callerA := ⟨rfl, by
    have : (callerA.depth + 90 < recursionLimit) := by decide +kernel
    omega, by
    have : (callerA.units + 30 * 90 + 500 < cLine) := by decide +kernel
    omega⟩
  refine wpAny_mono (law (fun _ => True) callerA s₁ _ [.ref aL] [] room (fun _ _ e => e) (fun _ _ => trivial) ⟨rfl, fun _ h => nomatch h⟩ (.cons (.list trivial hL (rep_ints hI)) .nil)) (fun v s' q => ?_) fun _ _ x => x
  obtain ⟨st, r⟩ := q
  cases r
  have base : Heap.StaysIn s₁.heap s'.heap := st.ext.base (fun _ _ e => e)
  exact ⟨.inl ⟨_, _, _, rfl, hr, .bool true, hp, unshared_nil⟩, .of_keep base, st.os, fun x hx => st.gens.bare (fun y hy => by rw [hg] at hy; simp at hy) x hx⟩
end
section
variable {G : Gr} {n : Nat}
theorem CallP.fn1 {d : DefRec} {a : Addr} {d1 r : D} {x : Str} (F : FnAt G d a) (h : ∀ env l, FEnv env d.scope → ExP G n env (HS G.base env l) [(x, .val d1)] d.body fun fl _ => fl = .ret r)
    (hx : d.params.args.map (·.arg) = [x] := by rfl) (hb : ∀ pm code doc v, bindArgs (docDef d.name d.params d.body d.scope pm code doc) ⟨[v], []⟩ = pure [(x, v)] := by intros; rfl)
    (hkind : (d.params.args.all fun y => d.scope.names.lookup y.arg == some .local || d.scope.names.lookup y.arg == some .cell) = true := by rfl)
    (hco : d.scope.isCoroutine = false := by rfl) (hgen : d.scope.isGenerator = false := by rfl) (hk : d.scope.kind = .function := by rfl) : CallP G (n + 1) (.ref a) [d1] r := by
  have hlen : d.params.args.length = 1 := by have := congrArg List.length hx; simpa using this
  refine CallP.def F (by rw [hlen]; rfl) (fun pm code doc vs hv => ?_) hkind (by rw [hx]; simp) (fun env l FE => ?_) hco hgen hk
  · match vs, hv with
    | [v], _ => rw [hb, hx]; rfl
  · have hz : (d.params.args.map (·.arg)).zip ([d1].map Slot.val) = [(x, .val d1)] := by rw [hx]; rfl
    rw [hz]; exact h env l FE
end
end Mine
end
section
open PySem PySem.W PyProof.Rows PySem.Calls
set_option maxRecDepth 100000
namespace Mine
namespace L10
open PySem.Challenge
abbrev df (i : Nat) : DefRec := defAt pw_dm0097_10 i
/-- what the functions of the project lean on -/
structure Pj (G : Gr) : Prop where
  len : G.mg "len" = none
  enum : G.mg "enumerate" = none
  iter : ∃ a, FnAt G (df 1) a
  strip : ∃ a, FnAt G (df 2) a
  check : ∃ a, FnAt G (df 3) a
section
variable {G : Gr} {n : Nat} {env : Env} {σ : St}
theorem iter_ok {l : List Nat} {e target : Expr} {p pos : Pos} (T : Pj G) {a : Addr} (F : FnAt G (df 1) a) (hk : env.kindOf (df 1).name = some .globalImplicit) (h : Ev G (n + 1) env σ e (.str (S l)))
    (hns : noStar [e] = true := by rfl) (hplain : (backTo pos (starEach [e] env)).any (·.1) = false := by rfl) (he : starEach [e] env = (false, eval e env) :: starEach [] env := by rfl) :
    EvID G (n + 1) env σ (.Call (.Name (df 1).name p) [e] [] pos) target ((toks 0 false l).map tokD) := by
  refine EvID.gen1 (x := "addr") F hk h rfl (fun env' A' okc g KF HF FE room hKF => ?_) (hns := hns) (hplain := hplain) (he := he)
  have L0 : Lp G n A' okc (fun _ => False) (fun _ => True) (.func (df 1).body env') [] := ⟨room, fun _ _ _ _ _ _ _ => trivial, rfl, rfl⟩
  refine Gs.cons (Gs.assign room L0.stable .int (FE.loc rfl) rfl ?_)
  refine Gs.cons (Gs.assign room L0.stable .bool (FE.loc rfl) rfl ?_)
  refine Gs.cons (Gs.forA (f := pairS "pos" "ch") (es := enumL (signs (S l))) (fun i (b : Bool) => [("addr", .val (.str (S l))), ("pos", .val (.int ((i - 1 : Nat) : Int))), ("escape", .val (.bool b))]) (fun i b => b = true → 0 < i) (fun i b => (toks i b (l.drop i)).map tokD) false L0 rfl nofun ⟨rfl, rfl, rfl, trivial⟩ (fun _ _ => rfl)
    (.enumS (FE.kind rfl) T.enum (.name rfl)) ?_ ?_ ?_ ?_ (fun _ _ _ _ _ _ => trivial))
  · intro d hd
    obtain ⟨i, hi, rfl⟩ := List.mem_map.mp hd
    exact .pair (FE.loc rfl) (FE.loc rfl)
  · intro d i p
    unfold pairS
    split <;> rfl
  · intro c' fs' FR' Res' KL HL i d b L hd hb next
    obtain ⟨e', he', rfl⟩ := enumL_get.mp hd
    have hc : ∃ c, l[i]? = some c ∧ e' = .str (S [c]) := by
      simp only [signs, List.getElem?_map, Option.map_eq_some_iff] at he'
      obtain ⟨c, hc, rfl⟩ := he'
      exact ⟨c, hc, rfl⟩
    obtain ⟨c, hc, rfl⟩ := hc
    have hlt : i < l.length := (List.getElem?_eq_some_iff.mp hc).1
    have hdrop : l.drop i = c :: l.drop (i + 1) := by
      rw [List.drop_eq_getElem_cons hlt]; congr 1
      exact (List.getElem?_eq_some_iff.mp hc).2
    rw [hdrop]
    cases b with
    | true =>
      refine Gs.cons (Gs.ite L.room L.stable (Tr.plain (Ev.name rfl).b .bool) (fun _ => ?_) nofun)
      refine Gs.cons (Gs.yield (σ' := [("addr", .val (.str (S l))), ("pos", .val (.int i)), ("ch", .val (.str (S [c]))), ("escape", .val (.bool true))]) (d := tokD (i, [92, c])) L.room L.stable L.split rfl L.quiet ((Ev.tuple (.cons (.name rfl) (.cons (.binop .str (.name rfl) (.add_str (sz (by simp [S_length]; decide)))) .nil)) (sz (by simp))).cast rfl) ⟨rfl, rfl, rfl, rfl, trivial⟩ rfl (by rw [FE.scope]; rfl) ?_)
      refine Gs.cons (Gs.assign L.room L.stable .bool (FE.loc rfl) rfl ?_)
      exact Gs.nil (Gs.nil ((next false nofun).of ⟨rfl, rfl, rfl, trivial⟩))
    | false =>
      refine Gs.cons (Gs.ite L.room L.stable (Tr.plain (Ev.name rfl).b .bool) nofun (fun _ => ?_))
      by_cases h92 : c = 92
      · subst h92
        refine Gs.cons (Gs.ite (x := true) L.room L.stable ((Tr.cmp (Ev.name rfl).b Ev.str.b .eq_str).cast rfl) (fun _ => ?_) nofun)
        refine Gs.cons (Gs.assign L.room L.stable .bool (FE.loc rfl) rfl ?_)
        have : (toks i false (92 :: l.drop (i + 1))).map tokD = (toks (i + 1) true (l.drop (i + 1))).map tokD := by rw [toks, if_pos rfl]
        rw [this]
        exact Gs.nil (Gs.nil (Gs.nil ((next true fun _ => Nat.succ_pos _).of ⟨rfl, rfl, rfl, trivial⟩)))
      · refine Gs.cons (Gs.ite (x := false) L.room L.stable ((Tr.cmp (Ev.name rfl).b Ev.str.b .eq_str).cast (by
          rw [show (Str.ofString "\\") = S [92] from rfl]; simp [S_inj, h92])) nofun (fun _ => ?_))
        have : (toks i false (c :: l.drop (i + 1))).map tokD = tokD (i, [c]) :: (toks (i + 1) false (l.drop (i + 1))).map tokD := by rw [toks, if_neg h92]; rfl
        rw [this]
        refine Gs.cons (Gs.yield (σ' := [("addr", .val (.str (S l))), ("pos", .val (.int i)), ("ch", .val (.str (S [c]))), ("escape", .val (.bool false))]) L.room L.stable L.split rfl L.quiet ((Ev.tuple (.cons (.name rfl) (.cons (.name rfl) .nil)) (sz (by simp))).cast rfl) ⟨rfl, rfl, rfl, rfl, trivial⟩ rfl (by rw [FE.scope]; rfl) ?_)
        exact Gs.nil (Gs.nil (Gs.nil ((next false nofun).of ⟨rfl, rfl, rfl, trivial⟩)))
  · intro b hb
    have hlen : (enumL (signs (S l))).length = l.length := by rw [enumL_length]; simp [signs]
    rw [hlen, List.drop_length]
    cases b with
    | true =>
      refine Gs.cons (Gs.ite room L0.stable (Tr.plain (Ev.name rfl).b .bool) (fun _ => ?_) nofun)
      refine Gs.cons (Gs.yield (σ' := []) room L0.stable rfl rfl rfl ((Ev.tuple (.cons (.name rfl) (.cons .str .nil)) (sz (by simp))).cast rfl) trivial rfl (by rw [FE.scope]; rfl) ?_)
      exact Gs.nil (Gs.nil (Gs.fin hKF))
    | false =>
      refine Gs.cons (Gs.ite room L0.stable (Tr.plain (Ev.name rfl).b .bool) nofun (fun _ => ?_))
      exact Gs.nil (Gs.nil (Gs.fin hKF))
end
end L10
end Mine
end
section
open PySem PySem.W PyProof.Rows PySem.Calls
set_option maxRecDepth 100000
namespace Mine
namespace L10
open PySem.Challenge
section
variable {G : Gr} {n : Nat} {env : Env} {σ : St}
def optD : Option Nat → D
  | none => .none
  | some k => .int (k : Nat)
def rowsD (ps : List (List Nat)) : List D := ps.map fun p => .str (S p)
theorem has34 (l : List Nat) : Txt.contains (S l) (S [34]) = decide (34 ∈ l) := by
  unfold Txt.contains
  rw [S_length, occ_one]
  have go : ∀ (l : List Nat) (a : Nat), (pos 34 1 a l).isEmpty = decide (34 ∉ l) := by
    intro l
    induction l with
    | nil => intro a; rfl
    | cons c r ih =>
      intro a
      rw [pos]
      by_cases h : c = 34
      · simp [h]
      · rw [if_neg h, ih]; simp [Ne.symm h]
  rw [go]; simp
set_option maxHeartbeats 4000000 in
theorem strip_ok {l : List Nat} (T : Pj G) (hl : l.length ≤ 3000) {a : Addr} (F : FnAt G (df 2) a) : CallD G (n + 2) (.ref a) [.str (S l)] (.str (S (strip l))) := by
  obtain ⟨ai, FI⟩ := T.iter
  refine CallD.fn1 (x := "addr") F (fun env FE => ?_)
  by_cases h34 : 34 ∈ l
  case neg =>
    refine Ex.cons (Ex1.ite (c := true) ((Tr.cmp Ev.str.b (Ev.name rfl).b .notIn_str).cast (by rw [show (Str.ofString "\"") = S [34] from rfl, has34]; simp [h34])) (fun _ => ?_) nofun)
    exact Ex.cons (Ex1.ret (Ev.name rfl).b (by rw [strip, if_neg h34]))
  refine Ex.cons (Ex1.ite (c := false) ((Tr.cmp Ev.str.b (Ev.name rfl).b .notIn_str).cast (by rw [show (Str.ofString "\"") = S [34] from rfl, has34]; simp [h34])) nofun (fun _ => Ex.nil ?_))
  refine Ex.one (Ex1.assign .int (FE.loc rfl)) ?_
  refine Ex.one (Ex1.assign .none (FE.loc rfl)) ?_
  refine Ex.step (Ex1.assignF (EvF.list .nil (by decide)) (FE.loc rfl)) ?_
  rintro _ ⟨a₀, rfl⟩
  have htl := toks_length l 0 false
  generalize hts : toks 0 false l = ts at htl
  refine Ex.forDJ (ι := Addr) (f := pairS "pos" "ch") (ds := ts.map tokD) (fun i a => [("addr", .val (.str (S l))), ("start", .val (.int ((stripAt l (ts.take i)).1 : Nat))), ("open_pos", .val (optD (stripAt l (ts.take i)).2.1)), ("result", .own a (rowsD (stripAt l (ts.take i)).2.2))]) (fun _ _ => True) a₀ trivial ⟨rfl, rfl, rfl, rfl, trivial⟩ (fun _ _ => by simp; decide)
    (by rw [← hts]; exact iter_ok T FI (FE.kind rfl) (.name rfl)) ?_ ?_ ?_
  · intro d hd
    obtain ⟨t, _, rfl⟩ := List.mem_map.mp hd
    exact .pair (FE.loc rfl) (FE.loc rfl)
  · intro i d p hd _
    rw [List.getElem?_map] at hd
    obtain ⟨t, ht, rfl⟩ := Option.map_eq_some_iff.mp hd
    have hlt : i < ts.length := (List.getElem?_eq_some_iff.mp ht).1
    have htk : ts.take (i + 1) = ts.take i ++ [t] := by rw [List.take_add_one, ht]; rfl
    have hrow := stripAt_rows l (ts.take i)
    rw [List.length_take] at hrow
    rw [htk, stripAt_snoc]
    generalize stripAt l (ts.take i) = st at *
    obtain ⟨start, op, rows⟩ := st
    dsimp only at hrow
    obtain ⟨ps, ch⟩ := t
    by_cases hch : ch = [34]
    · subst hch
      refine Ex.cons (Ex1.ite (c := true) ((Tr.cmp (Ev.name rfl).b Ev.str.b .eq_str).cast rfl) (fun _ => ?_) nofun)
      cases op with
      | none =>
        refine Ex.cons (Ex1.ite (c := true) ((Tr.cmp (Ev.name rfl).b Ev.none.b .none_is)) (fun _ => ?_) nofun)
        exact Ex.one (Ex1.assign (.name rfl) (FE.loc rfl)) (Ex.nil (Ex.nil (Ex.nil ⟨p, trivial, rfl, rfl, rfl, rfl, trivial⟩)))
      | some o =>
        refine Ex.cons (Ex1.ite (c := false) ((Tr.cmp (Ev.name rfl).b Ev.none.b .int_is)) nofun (fun _ => ?_))
        by_cases hso : start = o
        · subst hso
          refine Ex.cons (Ex1.ite (c := false) ((Tr.cmp (Ev.name rfl).b (Ev.name rfl).b .ne_int).cast (by simp)) nofun (fun _ => Ex.nil ?_))
          refine Ex.one (Ex1.assign (.binop (.name rfl) .int .add) (FE.loc rfl)) ?_
          refine Ex.one (Ex1.assign .none (FE.loc rfl)) (Ex.nil (Ex.nil (Ex.nil ⟨p, trivial, rfl, ?_, rfl, ?_, trivial⟩)))
          · rfl
          · simp [stripStep]; rfl
        · refine Ex.cons (Ex1.ite (c := true) ((Tr.cmp (Ev.name rfl).b (Ev.name rfl).b .ne_int).cast (by simp; omega)) (fun _ => ?_) nofun)
          refine Ex.one (Ex1.append rfl ((Ev.itemS (.name rfl) (.slice (.some (.name rfl)) (.some (.name rfl)) .none) (.sliceS rfl rfl rfl nofun (sz (by rw [S_length]; omega)))).cast (d' := .str (S ((l.drop start).take (o - start)))) ?_) (by unfold sizeLine; simp [rowsD]; omega)) (Ex.nil ?_)
          · show D.str (sliceStr (S l) (some (start : Int)) (some (o : Int)) none) = _
            unfold sliceStr
            rw [pickD_run]
          refine Ex.one (Ex1.assign (.binop (.name rfl) .int .add) (FE.loc rfl)) ?_
          refine Ex.one (Ex1.assign .none (FE.loc rfl)) (Ex.nil (Ex.nil (Ex.nil ⟨p, trivial, rfl, ?_, rfl, ?_, trivial⟩)))
          · rfl
          · simp [stripStep, hso, rowsD]; rfl
    · refine Ex.cons (Ex1.ite (c := false) ((Tr.cmp (Ev.name rfl).b Ev.str.b .eq_str).cast (by rw [show (Str.ofString "\"") = S [34] from rfl]; simp [S_inj, hch])) nofun (fun _ => Ex.nil (Ex.nil ⟨p, trivial, ?_⟩)))
      have : stripStep l (start, op, rows) (ps, ch) = (start, op, rows) := by simp [stripStep, hch]
      rw [this]
      exact ⟨rfl, rfl, rfl, rfl, trivial⟩
  · intro p _
    rw [List.length_map, List.take_length]
    have hrow := stripEnd_rows l
    have hat := stripAt_rows l ts
    rw [hts] at hrow
    have hst : strip l = (stripEnd l (stripAt l ts)).flatten := by rw [strip, if_pos h34, hts]
    rw [hst]
    generalize stripAt l ts = st at *
    obtain ⟨start, op, rows⟩ := st
    dsimp only at hat
    have fin : ∀ {ps : List (List Nat)}, ps.length ≤ l.length + 2 → (∀ q ∈ ps, q.length ≤ l.length) → JoinOk (S []) (ps.map S) = true := fun h1 h2 => joinOk_none (by
      have := flatten_le h2
      refine Nat.le_trans this (sz ?_)
      exact Nat.le_trans (Nat.mul_le_mul h1 (Nat.le_refl _)) (Nat.le_trans (Nat.mul_le_mul (by omega : l.length + 2 ≤ 4000) (by omega : l.length ≤ 4000)) (by decide)))
    by_cases hs : start < l.length
    · refine Ex.cons (Ex1.ite (c := true) ((Tr.cmp (Ev.name rfl).b (Ev.call (.builtin (FE.kind rfl) T.len rfl) (.builtin _) (.cons (.name rfl) .nil) (.len_str (by rw [S_length]; omega))).b .lt_int).cast (by rw [S_length]; simp; omega)) (fun _ => ?_) nofun)
      refine Ex.one (Ex1.append rfl ((Ev.itemS (.name rfl) (.slice (.some (.name rfl)) .none .none) (.sliceS rfl rfl rfl nofun (sz (by rw [S_length]; omega)))).cast (d' := .str (S (l.drop start))) ?_) (by unfold sizeLine; simp [rowsD]; omega)) (Ex.nil ?_)
      · show D.str (sliceStr (S l) (some (start : Int)) none none) = _
        unfold sliceStr
        rw [pickD_from]
      have he : stripEnd l (start, op, rows) = rows ++ [l.drop start] := by simp [stripEnd, hs]
      rw [he] at hrow ⊢
      refine Ex.cons (Ex1.ret ((Ev.methB (ds := [.list (((rows ++ [l.drop start]).map S).map .str)]) Ev.str.b .join (.builtin _) (.cons ((EvB.own rfl).castB (by simp [rowsD])) .nil) (.join (fin hrow.1 hrow.2)) rfl).cast (by rw [join_none])).b rfl)
    · refine Ex.cons (Ex1.ite (c := false) ((Tr.cmp (Ev.name rfl).b (Ev.call (.builtin (FE.kind rfl) T.len rfl) (.builtin _) (.cons (.name rfl) .nil) (.len_str (by rw [S_length]; omega))).b .lt_int).cast (by rw [S_length]; simp; omega)) nofun (fun _ => Ex.nil ?_))
      have he : stripEnd l (start, op, rows) = rows := by simp [stripEnd, hs]
      rw [he] at hrow ⊢
      refine Ex.cons (Ex1.ret ((Ev.methB (ds := [.list ((rows.map S).map .str)]) Ev.str.b .join (.builtin _) (.cons ((EvB.own rfl).castB (by simp [rowsD])) .nil) (.join (fin hrow.1 hrow.2)) rfl).cast (by rw [join_none])).b rfl)
set_option maxHeartbeats 4000000 in
theorem check_ok {l : List Nat} (T : Pj G) (hl : l.length ≤ 3000) {a : Addr} (F : FnAt G (df 3) a) : CallD G (n + 3) (.ref a) [.str (S l)] (.bool (check l)) := by
  obtain ⟨ai, FI⟩ := T.iter
  obtain ⟨as, FS⟩ := T.strip
  refine CallD.fn1 (x := "addr") F (fun env FE => ?_)
  refine Ex.one (Ex1.assign (.call (fn_ev FS (FE.kind rfl)) FS.callee (.cons (.name rfl) .nil) (strip_ok T hl FS)) (FE.loc rfl)) ?_
  refine Ex.one (Ex1.assign .int (FE.loc rfl)) ?_
  unfold check
  generalize strip l = m
  have htl := toks_length m 0 false
  unfold sound
  generalize hts : toks 0 false m = ts at htl
  refine Ex.forDJ (ι := Int) (f := pairS "pos" "ch") (ds := ts.map tokD) (fun i k => [("addr", .val (.str (S m))), ("opens", .val (.int k))]) (fun i k => openAt (ts.take i) = some k) 0 rfl ⟨rfl, rfl, trivial⟩ (fun _ _ => by simp; decide)
    (by rw [← hts]; exact iter_ok T FI (FE.kind rfl) (.name rfl)) ?_ ?_ ?_
  · intro d hd
    obtain ⟨t, _, rfl⟩ := List.mem_map.mp hd
    exact .pair (FE.loc rfl) (FE.loc rfl)
  · intro i d k hd hk
    rw [List.getElem?_map] at hd
    obtain ⟨t, ht, rfl⟩ := Option.map_eq_some_iff.mp hd
    have hlt : i < ts.length := (List.getElem?_eq_some_iff.mp ht).1
    have htk : ts.take (i + 1) = ts.take i ++ [t] := by rw [List.take_add_one, ht]; rfl
    have hsplit : ts = ts.take i ++ t :: ts.drop (i + 1) := by
      conv => lhs; rw [← List.take_append_drop i ts]
      rw [List.drop_eq_getElem_cons hlt]
      congr 2
      exact (List.getElem?_eq_some_iff.mp ht).2
    rw [htk, openAt_snoc, hk]
    obtain ⟨ps, ch⟩ := t
    by_cases h40 : ch = [40]
    · subst h40
      refine Ex.cons (Ex1.ite (c := true) ((Tr.cmp (Ev.name rfl).b Ev.str.b .eq_str).cast rfl) (fun _ => ?_) nofun)
      exact Ex.one (Ex1.aug rfl .int (FE.loc rfl) (.inl ⟨rfl, rfl⟩)) (Ex.nil (Ex.nil ⟨k + 1, by simp [openStep], rfl, rfl, trivial⟩))
    · refine Ex.cons (Ex1.ite (c := false) ((Tr.cmp (Ev.name rfl).b Ev.str.b .eq_str).cast (by rw [show (Str.ofString "(") = S [40] from rfl]; simp [S_inj, h40])) nofun (fun _ => ?_))
      by_cases h41 : ch = [41]
      · subst h41
        refine Ex.cons (Ex1.ite (c := true) ((Tr.cmp (Ev.name rfl).b Ev.str.b .eq_str).cast rfl) (fun _ => ?_) nofun)
        refine Ex.one (Ex1.aug rfl .int (FE.loc rfl) (.inr ⟨rfl, rfl⟩)) ?_
        by_cases hneg : k - 1 < 0
        · refine Ex.cons (Ex1.ite (c := true) ((Tr.cmp (Ev.name rfl).b Ev.int.b .lt_int).cast (by simp; omega)) (fun _ => ?_) nofun)
          refine Ex.cons (Ex1.ret Ev.bool.b ?_)
          show Fl.ret (.bool false) = Fl.ret (.bool (openAt ts == some 0))
          have : openAt ts = none := by
            rw [hsplit]
            unfold openAt
            rw [List.foldl_append, List.foldl_cons]
            have : List.foldl openStep (some 0) (ts.take i) = some k := hk
            rw [this, show openStep (some k) (ps, [41]) = none by simp [openStep, hneg]]
            exact openAt_none _
          rw [this]; rfl
        · refine Ex.cons (Ex1.ite (c := false) ((Tr.cmp (Ev.name rfl).b Ev.int.b .lt_int).cast (by simp; omega)) nofun (fun _ => Ex.nil (Ex.nil (Ex.nil (Ex.nil ⟨k - 1, ?_, rfl, rfl, trivial⟩)))))
          simp [openStep]; omega
      · refine Ex.cons (Ex1.ite (c := false) ((Tr.cmp (Ev.name rfl).b Ev.str.b .eq_str).cast (by rw [show (Str.ofString ")") = S [41] from rfl]; simp [S_inj, h41])) nofun (fun _ => Ex.nil (Ex.nil (Ex.nil ⟨k, ?_, rfl, rfl, trivial⟩))))
        simp [openStep, h40, h41]
  · intro k hk
    rw [List.length_map, List.take_length] at hk
    refine Ex.cons (Ex1.ret ((Ev.cmp (Ev.name rfl).b Ev.int.b .eq_int)).b ?_)
    rw [hk]
    show Fl.ret (.bool (k == 0)) = Fl.ret (.bool (some k == some 0))
    rfl
end
end L10
end Mine
end
section
open PySem PySem.W PyProof.Rows PySem.Calls
set_option maxRecDepth 100000
namespace Mine
namespace L10
open PySem.Challenge
structure Tp (G : Gr) : Prop extends Pj G where
  range : G.mg "range" = none
  sum : G.mg "sum" = none
  min : G.mg "min" = none
  divmod : G.mg "divmod" = none
  chr : G.mg "chr" = none
  list : G.mg "list" = none
  tuple : G.mg "tuple" = none
  type : G.mg "type" = none
  iterB : G.mg "iter" = none
  te : G.mg "TypeError" = none
  preF : ∃ a, FnAt G (df 4) a
  value : ∃ a, FnAt G (df 6) a
section
variable {G : Gr} {n : Nat} {env : Env} {σ : St}
theorem CallX.fn1 {d : DefRec} {a : Addr} {d1 : D} {X : String} {msg : Str} {x : Str} (F : FnAt G d a) (h : ∀ env l, FEnv env d.scope → ExX G n env (HS G.base env l) [(x, .val d1)] d.body X msg)
    (hx : d.params.args.map (·.arg) = [x] := by rfl) (hb : ∀ pm code doc v, bindArgs (docDef d.name d.params d.body d.scope pm code doc) ⟨[v], []⟩ = pure [(x, v)] := by intros; rfl)
    (hkind : (d.params.args.all fun y => d.scope.names.lookup y.arg == some .local || d.scope.names.lookup y.arg == some .cell) = true := by rfl)
    (hco : d.scope.isCoroutine = false := by rfl) (hgen : d.scope.isGenerator = false := by rfl) (hk : d.scope.kind = .function := by rfl) : CallX G (n + 1) (.ref a) [d1] X msg := by
  have hlen : d.params.args.length = 1 := by have := congrArg List.length hx; simpa using this
  refine CallX.def F (by rw [hlen]; rfl) (fun pm code doc vs hv => ?_) hkind (by rw [hx]; simp) (fun env l FE => ?_) hco hgen hk
  · match vs, hv with
    | [v], _ => rw [hb, hx]; rfl
  · have hz : (d.params.args.map (·.arg)).zip ([d1].map Slot.val) = [(x, .val d1)] := by rw [hx]; rfl
    rw [hz]; exact h env l FE
/-- what the odd value makes of `'"' not in v` -/
def Odd (G : Gr) (d : D) (msg : Str) : Prop := ∀ n y, CmpX G n .NotIn (.str y) d "TypeError" msg
theorem strip_raises {d : D} {msg : Str} (h : Odd G d msg) {a : Addr} (F : FnAt G (df 2) a) : CallX G (n + 1) (.ref a) [d] "TypeError" msg :=
  CallX.fn1 (x := "addr") F fun env l FE => ExX.head (ExX1.iteT (TrX.cmp Ev.str (.name rfl) (h _ _)))
theorem check_raises {d : D} {msg : Str} (T : Pj G) (h : Odd G d msg) {a : Addr} (F : FnAt G (df 3) a) : CallX G (n + 2) (.ref a) [d] "TypeError" msg := by
  obtain ⟨as, FS⟩ := T.strip
  exact CallX.fn1 (x := "addr") F fun env l FE => ExX.head (ExX1.assign (EvX.call rdS tellsS (fn_ev FS (FE.kind rfl)) FS.callee (.cons rdS (.of (.name rfl)) .nil) (strip_raises h FS)))
def acc (ls : List (List Nat)) (d : D) (a : Addr) (j : Nat) : St := [("email_header_fields", .val d), ("accepted_values", .own a (rowsD ((ls.take j).map pre)))]
theorem acc_nd (ls : List (List Nat)) (d : D) (a : Addr) (j : Nat) : ((acc ls d a j).map (·.1)).Nodup := by simp [acc]; decide
set_option maxHeartbeats 4000000 in
/-- a turn of the project's loop -/
theorem pre_turn {ls : List (List Nat)} {d : D} {l : List Nat} {j : Nat} {a : Addr} (T : Tp G) (hl : ls[j]? = some l) (h3 : l.length ≤ 3000) (hn : ls.length ≤ 100000) (FE : FEnv env (df 4).scope) {body : List Stmt} (hbody : body = (match (df 4).body with | _ :: .For _ _ b _ _ :: _ => b | _ => [])) :
    Ex G (n + 3) env [("email_header_fields", .val d), ("accepted_values", .own a (rowsD ((ls.take j).map pre))), ("v", .val (.str (S l)))] body fun fl σ₂ => fl = .next ∧ Sub (acc ls d a (j + 1)) σ₂ := by
  subst hbody
  obtain ⟨ac, FC⟩ := T.check
  have hlt : j < ls.length := (List.getElem?_eq_some_iff.mp hl).1
  have htk : ls.take (j + 1) = ls.take j ++ [l] := by rw [List.take_add_one, hl]; rfl
  have hrow : rowsD ((ls.take (j + 1)).map pre) = rowsD ((ls.take j).map pre) ++ [.str (S (pre l))] := by rw [htk]; simp [rowsD]
  unfold acc
  rw [hrow]
  have hz : (rowsD ((ls.take j).map pre)).length < sizeLine := by simp only [rowsD, List.length_map, List.length_take]; unfold sizeLine; omega
  cases hc : check l with
  | true =>
    have hp : pre l = l := by simp [pre, hc]
    refine Ex.cons (Ex1.ite (c := false) ((Tr.not (Tr.plain (Ev.call (fn_ev FC (FE.kind rfl)) FC.callee (.cons (.name rfl) .nil) (check_ok T.toPj h3 FC)).b .bool)).cast (by rw [hc]; rfl)) nofun (fun _ => Ex.nil ?_))
    exact Ex.one (Ex1.append rfl (.name rfl) hz) (Ex.nil ⟨rfl, rfl, (by rw [hp]; rfl), trivial⟩)
  | false =>
    have hp : pre l = bad := by simp [pre, hc]
    refine Ex.cons (Ex1.ite (c := true) ((Tr.not (Tr.plain (Ev.call (fn_ev FC (FE.kind rfl)) FC.callee (.cons (.name rfl) .nil) (check_ok T.toPj h3 FC)).b .bool)).cast (by rw [hc]; rfl)) (fun _ => ?_) nofun)
    refine Ex.one (Ex1.assign .str (FE.loc rfl)) (Ex.nil ?_)
    exact Ex.one (Ex1.append rfl (.name rfl) hz) (Ex.nil ⟨rfl, rfl, (by rw [hp]; rfl), trivial⟩)
set_option maxHeartbeats 4000000 in
/-- the project's function over a list, a row or a text: a new list -/
theorem pre_new {d : D} {ls : List (List Nat)} (T : Tp G) (hl : ∀ l ∈ ls, l.length ≤ 3000) (hn : ls.length ≤ 100000) (hd : IterD G (n + 3) d (rowsD ls)) {a : Addr} (F : FnAt G (df 4) a) : CallF G (n + 4) (.ref a) [d] (rowsD (ls.map pre)) := by
  refine CallF.fn1 (x := "email_header_fields") F (fun env FE => ?_)
  refine Ex.step (Ex1.assignF (EvF.list .nil (by decide)) (FE.loc rfl)) ?_
  rintro _ ⟨a₀, rfl⟩
  refine Ex.forS (f := fun d => setS "v" (.val d)) (ds := rowsD ls) (fun i a => acc ls d a i) a₀ ⟨rfl, rfl, trivial⟩ (fun _ _ => acc_nd ..)
    (.of_ev (.name rfl) hd) (fun d _ => .name (FE.loc rfl)) ?_ ?_
  · intro i e p he
    unfold rowsD at he
    rw [List.getElem?_map] at he
    obtain ⟨l, hl', rfl⟩ := Option.map_eq_some_iff.mp he
    refine (pre_turn T hl' (hl l (List.mem_of_getElem? hl')) hn FE rfl).mono fun fl σ' q => ?_
    obtain ⟨rfl, q⟩ := q
    exact ⟨p, q⟩
  · intro p
    refine Ex.cons (Ex1.retOwn rfl ⟨"accepted_values", p, rfl, ?_⟩)
    show some _ = some _
    rw [show (rowsD ls).length = ls.length by simp [rowsD], List.take_length]
end
end L10
end Mine
end
section
open PySem PySem.W PyProof.Rows PySem.Calls
set_option maxRecDepth 100000
namespace Mine
namespace L10
open PySem.Challenge
section
variable {G : Gr} {n : Nat} {env : Env} {σ : St}
theorem iter_same {base : Heap} {W : Addr → Prop} {h h' : Heap} {I a : Addr} {i : Nat} (x : ExtBut base W h h') (w : ¬ W I) (it : h.IsListIter I a i) : h'.IsListIter I a i := by
  obtain ⟨o, e, c, d⟩ := it
  obtain ⟨o', e', c', d', _⟩ := x I o w e
  exact ⟨o', e', c'.trans c, d'.trans d⟩
theorem list_same {base : Heap} {W : Addr → Prop} {h h' : Heap} {a : Addr} {vs : Array Value} (x : ExtBut base W h h') (w : ¬ W a) (it : h.IsList a vs) : h'.IsList a vs := by
  obtain ⟨o, e, c, n, d⟩ := it
  obtain ⟨o', e', c', d', _⟩ := x a o w e
  exact ⟨o', e', c'.trans c, n, d'.trans d⟩
set_option maxHeartbeats 4000000 in
theorem pre_it {ds : List D} {ls : List (List Nat)} {m : Nat} {msg : Str} (T : Tp G) (hm : ls.length = m) (hmn : m ≤ 100000) (hds : ∀ j d, j < m → ds[j]? = some d → ∃ l, ls[j]? = some l ∧ d = .str (S l) ∧ l.length ≤ 3000) (hodd : ∀ d, ds[m]? = some d → Odd G d msg) (hml : m ≤ ds.length)
    {aP : Addr} (F : FnAt G (df 4) aP) {ok : Addr → Prop} {A : Around} {s : Shared} {vs : List Value} {I a : Addr} {l : List Env} {Q : Value → Shared → Prop} {E : Value → Shared → Prop}
    (rm : Room (n + 4) A) (k : G.base.StaysIn s.heap) (fr : FreshOk ok s.heap) (K : Stk G.base s.heap A l) (hit : s.heap.IsListIter I a 0) (hla : s.heap.IsList a vs.toArray) (rs : RepAll ok s.heap vs ds) (oka : ok a) (okI : ok I) (hIb : G.base.get? I = none)
    (hn : m = ds.length → ∀ v s', ExtBut G.base (· = I) s.heap s'.heap → s'.os = s.os → GensKeep s.gens s'.gens → Rep ok s'.heap v (.list (rowsD (ls.map pre))) → Q v s')
    (hx : m < ds.length → ∀ e s₁ s', Mv G.base (· = I) s s₁ → s₁.heap.IsListIter I a (m + 1) → s₁.heap.IsList a vs.toArray → Exc G.base "TypeError" msg .fly s₁ s' e → E (.ref e) s') :
    wpAny G.M A (call (.ref aP) [.ref I]) Q E s := by
  obtain ⟨ac, FC⟩ := T.check
  have hIs : (s.heap.get? I).isSome = true := by obtain ⟨o, e, _⟩ := hit; rw [e]; rfl
  have has : (s.heap.get? a).isSome = true := by obtain ⟨o, e, _⟩ := hla; rw [e]; rfl
  have hne : a ≠ I := fun z => by
    subst z
    obtain ⟨o, e, c, _⟩ := hit
    obtain ⟨o2, e2, c2, _⟩ := hla
    rw [e] at e2; cases e2; rw [c] at c2; simp at c2
  refine call_enter (n := n + 3) F (ds := [.raw (.ref I)]) (ok := ok) rfl (fun pm code doc vs hv => ?_) rfl (by decide) rfl rfl rfl rm k fr (.cons (.raw _) .nil) fun env s₁ FE hfl st inv hfw rm' => ?_
  · match vs, hv with
    | [v], _ => rfl
  have hns : ∀ {b}, (s.heap.get? b).isSome = true → ¬ FrW env b := fun {b} hb w => by rw [hfw b w] at hb; cases hb
  have hS1 := HS.enter K st hfl hfw
  have inv' : Inv G.base ok env [("email_header_fields", .val (.raw (.ref I)))] s₁.heap := inv
  have hAs : ∀ p p' pos, Ex1 G (n + 3) env [(("email_header_fields" : Str), Slot.val (.raw (.ref I)))] (.Assign [.Name "accepted_values" p] (.List [] p') pos) fun fl σ' => fl = .next ∧ ∃ a, σ' = setS "accepted_values" (.own a []) [(("email_header_fields" : Str), Slot.val (.raw (.ref I)))] := fun p p' pos =>
    Ex1.assignF (EvF.list .nil (by decide)) (FE.loc rfl)
  refine wpAny_execs_cons (wpAny_mono (hAs _ _ _ ok _ s₁ _ rm' (st.ext.base k) inv') (fun f s₂ z => ?_) fun _ _ x => x)
  obtain ⟨fl, σ₂, ⟨rfl, a0, rfl⟩, fi, inv₂, mv₂, k₂, ow₂⟩ := z
  cases f <;> first | exact fi.elim | skip
  have hσ : ∀ b, Wr env [(("email_header_fields" : Str), Slot.val (.raw (.ref I)))] b → FrW env b := fun b w => w.elim id fun z => nomatch z
  have e12 : ExtBut G.base (FrW env) s.heap s₂.heap := ((st.mv (W := FrW env)).trans (mv₂.weak hσ) fun _ w => .inl w).ext
  have m12 : Mv G.base (FrW env) s s₂ := (st.mv (W := FrW env)).trans (mv₂.weak hσ) fun _ w => .inl w
  have st12 : Stp G.base s s₂ := m12.stp hfw
  have ha0 : s.heap.get? a0 = none := (ow₂ a0 (owned_of_lookup (lookup_setS_self _))).elim (fun z => nomatch z) fun z => st.ext.none z
  have howned : ∀ b, b ∈ owned (setS "accepted_values" (.own a0 []) [(("email_header_fields" : Str), Slot.val (.raw (.ref I)))]) → b = a0 := fun b hb => (owned_setS_sub hb).elim (fun z => nomatch z) fun z => List.mem_singleton.mp z
  have hwr2 : ∀ b, Wr env (setS "accepted_values" (.own a0 []) [(("email_header_fields" : Str), Slot.val (.raw (.ref I)))]) b → s.heap.get? b = none := fun b w => w.elim (hfw b) fun z => by rw [howned b z]; exact ha0
  have hIw : ¬ Wr env (setS "accepted_values" (.own a0 []) [(("email_header_fields" : Str), Slot.val (.raw (.ref I)))]) I := fun w => by rw [hwr2 I w] at hIs; cases hIs
  have haw : ¬ Wr env (setS "accepted_values" (.own a0 []) [(("email_header_fields" : Str), Slot.val (.raw (.ref I)))]) a := fun w => by rw [hwr2 a w] at has; cases has
  have hS2 : HS G.base env l _ s₂.heap := rdS.mv inv' mv₂ hS1
  have hIfp : ¬ fpS l I := fun ⟨env', he', hf'⟩ => by
    obtain ⟨_, L, mm, c2, _, c4⟩ := K.funs env' he'
    rw [hf'] at c2; cases c2
    obtain ⟨o, es, ep, e1, d1, _⟩ := c4
    obtain ⟨o2, e2, _, d2⟩ := hit
    rw [e1] at e2; cases e2; rw [d1] at d2; cases d2
  refine wpAny_execs_cons ?_
  refine loopX (f := fun d => setS "v" (.val d)) (ds := ds) (okc := fun b => ok b ∧ (s.heap.get? b).isSome = true) (X := "TypeError") (msg := msg) (l := l) (H := HS G.base env l) rdS (fun _ _ h => h) (Itr.listIter (a := a) (vs := vs) rm'.handled hne ⟨oka, has⟩ rs.length)
    ⟨⟨iter_same e12 (hns hIs) hit, list_same e12 (hns has) hla⟩, (repAll_alloc rs).stp st12⟩ hS2 rm' k₂ inv₂ rfl hIw hIb hIfp okI (fun b z => ⟨⟨z.1, fun w => by rw [howned b w, ha0] at z; cases z.2⟩, ?_⟩) (fun d _ => .name (FE.loc rfl))
    (fun j σ₁ => j ≤ m ∧ ∃ b, Sub (acc ls (.raw (.ref I)) b j) σ₁) ⟨Nat.zero_le _, a0, rfl, rfl, trivial⟩ m ?_ ?_ ?_ ?_
  · obtain ⟨o, e⟩ := Option.isSome_iff_exists.mp z.2
    obtain ⟨o', e', _⟩ := st12.ext b o e
    rw [e']; rfl
  · rintro j d σ₁ hj hd ⟨hjm, b, hsub⟩
    obtain ⟨t, ht, rfl, h3⟩ := hds j d (by omega) hd
    have hsub' := Sub.set (x := "v") (s := .val (.str (S t))) hsub (by simp [acc]; decide)
    refine Ex.only (σ₀ := [("email_header_fields", .val (.raw (.ref I))), ("accepted_values", .own b (rowsD ((ls.take j).map pre))), ("v", .val (.str (S t)))]) ⟨hsub'.1, hsub'.2.1, lookup_setS_self _, trivial⟩ ?_
    refine (pre_turn T ht h3 (by omega) FE rfl).mono fun fl σ' q => ⟨q.1, by omega, b, q.2⟩
  · rintro d σ₁ hd ⟨hjm, b, hsub⟩
    refine ExX.only (σ₀ := [("v", .val d)]) ⟨lookup_setS_self _, trivial⟩ ?_
    exact ExX.head (ExX1.iteT (TrX.not (TrX.plain (EvX.call rdS tellsS (fn_ev FC (FE.kind rfl)) FC.callee (.cons rdS (.of (.name rfl)) .nil) ((check_raises (n := n + 1) T.toPj (hodd d hd) FC))))))
  · rintro s₃ ⟨σ', ⟨hjm, b, hsub⟩, inv₃, ext₃, os₃, gens₃, k₃, ow₃⟩
    have hmd : m = ds.length := by omega
    refine wpAny_mono (Ex.only (n := n + 3) (G := G) hsub (Q := fun fl _ => fl = .ret (.list (rowsD (ls.map pre)))) (Ex.cons (Ex1.ret (EvB.own rfl) (by rw [show (ls.take ds.length).map pre = ls.map pre by rw [List.take_of_length_le (by omega)]]))) (acc_nd ..) ok _ s₃ (fun _ _ => False) rm' k₃ inv₃) (fun f s₄ z => ?_) fun _ _ x => x.elim
    obtain ⟨fl, σ'', rfl, fi, _, mv₄, _, _⟩ := z
    cases f with
    | ret v =>
      refine hn hmd v s₄ (fun c o hc e => ?_) (mv₄.os.trans (os₃.trans m12.os)) (m12.gens.trans (gens₃.trans mv₄.gens)) fi
      have hnw : ∀ {c}, (s.heap.get? c).isSome = true → ¬ Wr env (setS "accepted_values" (.own a0 []) [(("email_header_fields" : Str), Slot.val (.raw (.ref I)))]) c := fun hc w => by rw [hwr2 _ w] at hc; cases hc
      have hcs : (s.heap.get? c).isSome = true := by rw [e]; rfl
      obtain ⟨o1, e1, c1, d1, k1⟩ := e12 c o (hns hcs) e
      obtain ⟨o2, e2, c2, d2, k2⟩ := ext₃ c o1 (fun w => w.elim (hnw hcs) hc) e1
      have hnw4 : ¬ Wr env σ' c := fun w => by
        rcases w with w | w
        · exact hns hcs w
        · rcases ow₃ c w with w | w
          · exact hnw hcs (.inr w)
          · rw [w] at e1; cases e1
      obtain ⟨o3, e3, c3, d3, k3⟩ := mv₄.ext c o2 hnw4 e2
      refine ⟨o3, e3, c3.trans (c2.trans c1), d3.trans (d2.trans d1), fun q => ?_⟩
      have := k1 q; subst this
      have := k2 q; subst this
      exact k3 q
    | _ => exact fi.elim
  · rintro hml2 v s₃ ⟨s₄, e, rfl, mv₄, fr₄, h₄, sx, ex⟩
    have off : G.base.get? env.locals = none := inv.off _ (.inl (.inl rfl))
    refine ex.leave (h₄.stk fr₄ off) (fun L z => by cases z; exact hfl) fun s₅ ex₅ => ?_
    refine hx hml2 e s₄ s₅ ?_ sx.1.1 sx.1.2 ex₅
    have m14 : Mv G.base (fun b => (FrW env b ∨ b = a0) ∨ b = I) s s₄ := ((m12.weak (W' := fun b => (FrW env b ∨ b = a0) ∨ b = I) fun b w => .inl (.inl w))).trans (mv₄.weak (W' := fun b => (FrW env b ∨ b = a0) ∨ b = I) fun b w => w.elim (fun w => .inl (w.elim .inl fun z => .inr (howned b z))) .inr) fun b w => .inl w
    exact ⟨fun b o w q => m14.ext b o (fun z => by
      rcases z with (z | z) | z
      · rw [hfw b z] at q; cases q
      · rw [z, ha0] at q; cases q
      · exact w z) q, m14.dom, m14.os, m14.gens⟩
end
end L10
end Mine
end
section
open PySem PySem.W PyProof.Rows PySem.Calls
set_option maxRecDepth 100000
namespace Mine
namespace L10
open PySem.Challenge
section
variable {G : Gr} {n : Nat} {env : Env} {σ : St}
theorem repAll_drop {ok : Addr → Prop} {h : Heap} : ∀ {vs : List Value} {ds : List D} (k : Nat), RepAll ok h vs ds → RepAll ok h (vs.drop k) (ds.drop k)
  | _, _, 0, r => r
  | [], _, k + 1, .nil => .nil
  | _ :: _, _, k + 1, .cons a r => repAll_drop k r
set_option maxHeartbeats 4000000 in
/-- the handler's only statement -/
theorem suite_ok (T : Tp G) (FE : FEnv env (df 7).scope) {A : Around} {s : Shared} {E : Value → Shared → Prop} {e I a : Addr} {vs : List Value} {ds : List D} {m : Nat} {t : Tok} {okx : Addr → Prop} {oe : Obj} {ws : Array Value} {p1 p2 p3 p4 p5 p6 p7 p8 p9 p10 p11 : Pos} {kk : Nat}
    (hh : A.handled = some (.ref e)) (hu : A.units + 500 < cLine) (k : G.base.StaysIn s.heap) (F : Frame env s.heap) (h1 : Holds env s.heap "rest" (.ref I)) (h2 : Holds env s.heap "row" (.ref a)) (h3 : Holds env s.heap "at" (.int m t))
    (hit : s.heap.IsListIter I a (m + 1)) (hla : s.heap.IsList a vs.toArray) (rs : RepAll okx s.heap vs ds) (hml : m < ds.length) (hdl : ds.length ≤ 1000) (hdat : (D.list (ds.drop (m + 1))).data 1 = true)
    (he : s.heap.get? e = some oe) (hde : oe.data = .fields ws) (h9 : ws[2]? = some .none) (hei : e ≠ I) :
    wpAny G.M A (execs [.Return (some (.Compare (.Call (.Name "list" p1) [.Name "rest" p2] [] p3) [.Eq] [.Subscript (.Name "row" p4) (.Slice (some (.BinOp (.Name "at" p5) .Add (.Constant (.int 1) kk p6) p7)) none none p8) p9] p10)) p11] env)
      (fun f s' => f = .ret (.bool true) ∧ (∀ b o, b ≠ I → s.heap.get? b = some o → s'.heap.get? b = some o) ∧ s'.os = s.os ∧ s'.gens = s.gens) E s := by
  have hne : a ≠ I := fun z => by
    subst z
    obtain ⟨o, e, c, _⟩ := hit
    obtain ⟨o2, e2, c2, _⟩ := hla
    rw [e] at e2; cases e2; rw [c] at c2; simp at c2
  have hvl := rs.length
  refine wpAny_execs_cons (wpAny_Return_some (wpAny_Compare1 ?_))
  -- list(rest)
  have hlist : wpAny G.M A (eval (.Name "list" p1) env) (fun v s₁ => v = .type "list" ∧ s₁ = s) E s :=
    Name_function_global F.kind (FE.kind rfl) (loadGlobal_builtin (by rw [F.glob]; exact G.g.keeps k) T.list (by rw [F.blt]; exact G.b.keeps k) ((G.bb "list" (by decide)).trans rfl) ⟨rfl, rfl⟩) (by decide)
  refine Call_ (wpAny_mono hlist (fun v s₁ z => ?_) fun _ _ x => x)
  obtain ⟨rfl, rfl⟩ := z
  refine callWith_callee (G := G) (.type _) rfl (PyProof.Rows.args_cons (wpAny_holds F.kind h1 (PyProof.Rows.args_nil ⟨k, ?_⟩) (by decide) (by decide)) rfl) rfl
  have hst : ∃ oe vs, s₁.heap.get? e = some oe ∧ oe.data = .fields vs ∧ vs[2]? = some .none := ⟨oe, ws, he, hde, h9⟩
  refine call_list_it (walksH (A := A.in1.in1) (e := e) hh I a hne hei vs.toArray (m + 1) (by rw [List.size_toArray]; omega)) (fun i s h => h.1.typeIs) (by rw [List.size_toArray]; unfold sizeLine; omega) ⟨hit, hla, hst⟩ (by simp) (fun b hb => ?_) (fun b hb => List.mem_singleton.mp hb) ?_
  · simp only [List.mem_cons, List.not_mem_nil, or_false] at hb
    rcases hb with rfl | rfl | rfl
    · obtain ⟨o, q, _⟩ := hit; exact Heap.lt_size q
    · obtain ⟨o, q, _⟩ := hla; exact Heap.lt_size q
    · exact Heap.lt_size he
  intro h' tk acc c' hkp hL hacc
  have hext : ExtBut s₁.heap (· = I) s₁.heap h' := fun b o w q => ⟨o, hkp b o w q, rfl, rfl, fun _ => rfl⟩
  have hnf : ∀ {b}, FrW env b → b ≠ I := fun {b} w z => by
    subst z
    obtain ⟨o, q, _, d⟩ := hit
    rcases w with w | ⟨y, w⟩
    · obtain ⟨mm, o2, es, ep, q2, d2, _⟩ := F.ns
      rw [← w, q] at q2; cases q2; rw [d] at d2; cases d2
    · obtain ⟨v, o2, q2, d2⟩ := F.cells y _ w
      rw [q] at q2; cases q2; rw [d] at d2; cases d2
  have hh' : ∀ {x v}, Holds env s₁.heap x v → Holds env h' x v := fun {x v} q => by
    rcases q with ⟨kk, mm, ⟨o, es, ep, q, d, rr⟩, r⟩ | ⟨kk, c, l, ⟨o, q, d⟩⟩
    · exact .inl ⟨kk, mm, ⟨o, es, ep, hkp _ _ (hnf (.inl rfl)) q, d, rr⟩, r⟩
    · exact .inr ⟨kk, c, l, ⟨o, hkp _ _ (hnf (.inr ⟨x, l⟩)) q, d⟩⟩
  have hacl : acc.toList = vs.drop (m + 1) := by
    apply List.ext_getElem?
    intro j
    rw [List.getElem?_drop]
    by_cases hj : j < acc.size
    · have q : acc[j]? = some acc[j] := Array.getElem?_eq_getElem hj
      have := hacc.2 j _ q
      rw [show acc.toList[j]? = acc[j]? by simp, q]
      simpa using this.symm
    · have h1 : acc.size = vs.length - (m + 1) := by simpa using hacc.1
      rw [List.getElem?_eq_none (by simpa using hj), List.getElem?_eq_none (by rw [h1] at hj; omega)]
  have nI : ∀ b, IsNode s₁.heap b → b ≠ I := fun b nd z => by
    subst z
    obtain ⟨o, q, c, d⟩ := hit
    exact not_node q c (by decide) nd
  have rs' : RepAll (fun _ => True) h' vs ds := rs.extBut hext (fun b _ nd => nI b nd) fun _ _ _ => trivial
  have repL : Rep (fun _ => True) h' (.ref s₁.heap.objs.size) (.list (ds.drop (m + 1))) :=
    .list (vs := acc.toList) trivial ⟨_, hL, rfl, c', by simp⟩ (by rw [hacl]; exact repAll_drop _ rs')
  have hla' : h'.IsList a vs.toArray := list_same hext hne hla
  -- row[at + 1:]
  refine Subscript_ (wpAny_holds (s := { s₁ with heap := h', toks := tk }) F.kind (hh' h2) ?_ (by decide) (by decide))
  refine wpAny_Slice ?_
  show wpAny _ _ (eval (.BinOp _ _ _ _) env) _ _ _
  refine wpAny_BinOp (wpAny_holds (s := { s₁ with heap := h', toks := tk }) F.kind (hh' h3) (wpAny_Constant_int (P.add_int ?_)) (by decide) (by decide))
  refine wpAny_pure (wpAny_pure ?_)
  dsimp only
  refine tail_any (T := "list") (ops := [_, _]) (by obtain ⟨o, q, c, _⟩ := hla'; exact ⟨o, Heap.get?_push_of_some _ q, c⟩) slot_list_getitem.lookup ?_ rfl
  have hz : ds.length ≤ sizeLine := by unfold sizeLine; omega
  refine wpAny_getItem_list_slice (lo := some ((m : Int) + 1)) (hi := none) (st := none) (by obtain ⟨o, q, c, nn, d⟩ := hla'; exact ⟨o, Heap.get?_push_of_some _ q, c, nn, d⟩) ⟨_, Heap.get?_push_size _ rfl, rfl, rfl⟩ (.int _ _) .none .none nofun ?_ (by rw [List.size_toArray, hvl]; exact hz)
  generalize hS : ({ cls := .type "slice", data := .fields #[_, _, _] } : Obj) = oS
  generalize hR : ({ cls := .type "list", data := .seq (slicePick vs.toArray (some ((m : Int) + 1)) none none) } : Obj) = oR
  have hRf : oR.isFreed = false := by rw [← hR]; rfl
  have e2 : Ext h' h' ((h'.push oS).push oR) := .of_stays fun b o q => Heap.get?_push_of_some _ (Heap.get?_push_of_some _ q)
  have rs2 := rs'.ext e2 (ok' := fun _ => True) fun _ _ _ => trivial
  have hpick : pickD ds (some ((m : Int) + 1)) none none = ds.drop (m + 1) := by
    rw [show ((m : Int) + 1) = ((m + 1 : Nat) : Int) by omega]; exact pickD_from ds (m + 1)
  have repR : Rep (fun _ => True) ((h'.push oS).push oR) (.ref (h'.push oS).objs.size) (.list (ds.drop (m + 1))) := by
    have := pick_rep rs2 (some ((m : Int) + 1)) none none
    rw [hpick] at this
    exact .list trivial ⟨oR, Heap.get?_push_size _ hRf, by rw [← hR], 0, by rw [← hR]⟩ this
  have repL2 := repL.ext e2 (ok' := fun _ => True) fun _ _ _ => trivial
  obtain ⟨as, qa⟩ := rep_reads 1 repL2 hdat
  obtain ⟨bs, qb⟩ := rep_reads 1 repR hdat
  have la := data_lay 1 _ hdat
  refine SeqAt.compareEq_reads qa qb la.1 la.1 (by have := la.2; omega) ⟨?_, fun b o hb q => ?_, rfl, rfl⟩
  · rw [show PyData.eqv (D.list (ds.drop (m + 1))).py (D.list (ds.drop (m + 1))).py = true from eqb_refl hdat]
  · exact Heap.get?_push_of_some _ (Heap.get?_push_of_some _ (hkp b o hb q))
end
end L10
end Mine
end
section
open PySem PySem.W PyProof.Rows PySem.Calls
set_option maxRecDepth 100000
namespace Mine
namespace L10
open PySem.Challenge
theorem te_exc : isSubtype (.type "TypeError") (.type "BaseException") = pure true := by rw [isSubtype_type]; kernel_rfl
theorem te_meta : isSubtype (.type ((Manifest.find? "TypeError").elim "type" fun x => x.metatype)) (.type "tuple") = pure false := by rw [isSubtype_type]; kernel_rfl
section
variable {G : Gr} {n : Nat} {env : Env} {σ : St}
theorem Mv.but {base : Heap} {W : Addr → Prop} {s s₁ : Shared} {I : Addr} {s' : Shared} (m : Mv base W s s₁) (hI : s.heap.get? I = none) (hk : ∀ b o, b ≠ I → s₁.heap.get? b = some o → s'.heap.get? b = some o) (ho : s'.os = s₁.os) (hg : s'.gens = s₁.gens) : Mv base W s s' := by
  refine ⟨fun b o w e => ?_, fun b e => ?_, ho.trans m.os, by rw [hg]; exact m.gens⟩
  · obtain ⟨o', e', c', d', k'⟩ := m.ext b o w e
    exact ⟨o', hk b o' (fun z => by rw [z, hI] at e; cases e) e', c', d', k'⟩
  · by_cases z : b = I
    · rw [z]; exact hI
    · cases q : s₁.heap.get? b with
      | none => exact m.dom b q
      | some o => rw [hk b o z q] at e; cases e
set_option maxHeartbeats 8000000 in
/-- rest = iter(row); try: pre(rest) except TypeError: return list(rest) == row[at + 1:]; return False -/
theorem tail_ok {ls : List (List Nat)} {ds : List D} {m : Nat} {msg : Str} {l : List Env} (T : Tp G) (FE : FEnv env (df 7).scope) (hm : ls.length = m) (hmn : m ≤ 1000) (hds : ∀ j d, j < m → ds[j]? = some d → ∃ l, ls[j]? = some l ∧ d = .str (S l) ∧ l.length ≤ 3000) (hodd : ∀ d, ds[m]? = some d → Odd G d msg) (hml : m < ds.length) (hdl : ds.length ≤ 1000)
    (hdat : (D.list (ds.drop (m + 1))).data 1 = true) (body : List Stmt) (hbody : body = (df 7).body.drop 14) :
    ExP G (n + 4) env (HS G.base env l) [("row", .val (.list ds)), ("at", .val (.int (m : Nat)))] body fun fl _ => fl = .ret (.bool true) := by
  subst hbody
  obtain ⟨aP, FP⟩ := T.preF
  intro ok A s E hS r k i
  obtain ⟨vrow, hrow, rrow⟩ := i.vals "row" _ rfl
  cases rrow with
  | @list a vs _ oka hla rs =>
  obtain ⟨vat, hat, rat⟩ := i.vals "at" _ rfl
  cases rat with
  | int _ tat =>
  have off : G.base.get? env.locals = none := i.off _ (.inl (.inl rfl))
  have hnow : ∀ b, Wr env [(("row" : Str), Slot.val (.list ds)), (("at" : Str), Slot.val (.int (m : Nat)))] b → FrW env b := fun b w => w.elim id fun z => nomatch z
  -- rest = iter(row)
  refine wpAny_execs_cons (wpAny_Assign_Name ?_ rfl)
  refine Call_ (wpAny_mono ((Ev.builtin (n := n + 4) (σ := [(("row" : Str), Slot.val (.list ds)), (("at" : Str), Slot.val (.int (m : Nat)))]) (FE.kind rfl) T.iterB rfl (hn := by decide) (hd := by decide) : Ev G (n + 4) env _ (.Name "iter" _) (.raw (.builtin "iter"))) ok A s E r k i) (fun v s₁ z => ?_) fun _ _ x => x)
  obtain ⟨st1, rp⟩ := z
  cases rp
  have i1 := i.ext st1.ext
  refine callWith_callee (G := G) (.builtin _) rfl (PyProof.Rows.args_cons (wpAny_holds i1.frame.kind (hrow.ext st1.ext) (PyProof.Rows.args_nil ⟨st1.ext.base k, ?_⟩) (by decide) (by decide)) rfl) rfl
  refine call_iter (st1.ext.list hla) ?_
  generalize hI : s₁.heap.objs.size = I
  generalize hoI : ({ cls := .type "list_iterator", data := .fields #[.ref a, .int 0 0] } : Obj) = oI
  have hoIf : oI.isFreed = false := by rw [← hoI]; rfl
  have hI1 : s₁.heap.get? I = none := by rw [← hI]; exact fresh_get
  have hI0 : s.heap.get? I = none := st1.ext.none hI1
  have st2 : Stp G.base s { s₁ with heap := s₁.heap.push oI } := st1.trans (.push (s := s₁) (tk := s₁.toks))
  have i2 := i.ext st2.ext
  have hitI : (s₁.heap.push oI).IsListIter I a 0 := ⟨oI, by rw [← hI]; exact Heap.get?_push_size _ hoIf, by rw [← hoI], by rw [← hoI]; rfl⟩
  refine wpAny_store (s := { s₁ with heap := s₁.heap.push oI }) (base := G.base) i2.frame (FE.loc rfl) fun s₂ hv ho F₂ m₂ => ?_
  have i3 := i2.set_val (x := "rest") (v := .ref I) (d := .raw (.ref I)) m₂ F₂ hv ho (.raw _)
  have hnI : ¬ FrW env I := fun w => by
    have := fresh_not_wr (σ := [(("row" : Str), Slot.val (.list ds)), (("at" : Str), Slot.val (.int (m : Nat)))]) i hI0
    exact this (.inl w)
  have hna : ¬ FrW env a := node_not_frame i.frame (.list hla)
  have m02 : Mv G.base (FrW env) s s₂ := (st2.mv (W := FrW env)).trans m₂ fun _ w => .inl w
  have k2 : G.base.StaysIn s₂.heap := m02.base k fun b w => i.off b (.inl w)
  have hit2 : s₂.heap.IsListIter I a 0 := iter_same m₂.ext hnI hitI
  have hla2 : s₂.heap.IsList a vs.toArray := list_same m02.ext hna hla
  have hS2 : HS G.base env l A s₂.heap := rdS.mv i ⟨fun b o w e => m02.ext b o (fun z => w (.inl z)) e, m02.dom, m02.os, m02.gens⟩ hS
  have K2 : Stk G.base s₂.heap A (env :: l) := hS2.stk F₂ off
  have hrow2 : Holds env s₂.heap "row" (.ref a) := ho _ _ (by decide) (hrow.ext st2.ext)
  have hat2 : Holds env s₂.heap "at" (.int (m : Nat) tat) := ho _ _ (by decide) (hat.ext st2.ext)
  have rs2 : RepAll (okO ok [(("row" : Str), Slot.val (.list ds)), (("at" : Str), Slot.val (.int (m : Nat)))]) s₂.heap vs ds := rs.extBut m02.ext (fun b _ nd => node_not_frame i.frame nd) fun _ q _ => q
  have hIb : G.base.get? I = none := by
    cases q : G.base.get? I with
    | none => rfl
    | some o => rw [k I o q] at hI0; cases hI0
  -- try
  refine wpAny_execs_cons (wpAny_Try_except ?_)
  refine wpAny_execs_cons (wpAny_Expr_any ?_ (by unfold interactive; rw [F₂.kind]; rfl) rfl)
  refine Call_ (wpAny_mono ((fn_ev (n := n + 4) (σ := setS "rest" (.val (.raw (.ref I))) [(("row" : Str), Slot.val (.list ds)), (("at" : Str), Slot.val (.int (m : Nat)))]) FP (FE.kind rfl) : Ev G (n + 4) env _ (.Name (df 4).name _) (.raw (.ref aP))) ok A s₂ _ r k2 i3) (fun v s₃ z => ?_) fun _ _ x => x)
  obtain ⟨st3, rp⟩ := z
  cases rp
  have i3' := i3.ext st3.ext
  refine callWith_callee (G := G) FP.callee rfl (PyProof.Rows.args_cons (wpAny_holds i3'.frame.kind (hv.ext st3.ext) (PyProof.Rows.args_nil ⟨st3.ext.base k2, ?_⟩) (by decide) (by decide)) rfl) rfl
  have hit3 : s₃.heap.IsListIter I a 0 := iter_same (W := fun _ => False) (base := G.base) (fun b o _ e => st3.ext b o e) id hit2
  refine pre_it (m := m) (l := env :: l) (ok := fun b => okO ok [(("row" : Str), Slot.val (.list ds)), (("at" : Str), Slot.val (.int (m : Nat)))] b ∨ b = I) T hm (by omega) hds hodd (by omega) FP r (st3.ext.base k2) (fun b e => .inl ⟨i.fresh b (m02.dom b (st3.ext.none e)), fun z => nomatch z⟩) (K2.ext st3.ext) hit3 (st3.ext.list hla2) ((rs2.stp st3).weak fun b q => .inl q) (.inl oka) (.inr rfl) hIb (fun z => by omega) fun _ e s₄ s₅ mv₄ hit4 hla4 ex => ?_
  -- caught
  have mI4 : Mv G.base (· = I) s₂ s₄ := (st3.mv (W := (· = I))).trans mv₄ fun _ w => .inl w
  have hnI2 : ∀ b, b = I → ¬ Wr env (setS "rest" (.val (.raw (.ref I))) [(("row" : Str), Slot.val (.list ds)), (("at" : Str), Slot.val (.int (m : Nat)))]) b := fun b z w => by
    subst z
    rcases w with w | w
    · exact hnI w
    · have := owned_setS_val w; cases this
  have i4 : Inv G.base ok env (setS "rest" (.val (.raw (.ref I))) [(("row" : Str), Slot.val (.list ds)), (("at" : Str), Slot.val (.int (m : Nat)))]) s₄.heap := i3.mvW mI4 hnI2 fun b z _ nd => by
    subst z
    obtain ⟨o, q, c, _⟩ := hit2
    exact not_node q c (by decide) nd
  have hS4 : HS G.base env l A s₄.heap := rdS.keep A _ _ hS2 fun b hb o q => mI4.ext b o (fun z => by
    subst z
    obtain ⟨env', he', hf'⟩ := hb
    obtain ⟨_, L, mm, c2, _, c4⟩ := K2.funs env' (.tail _ he')
    rw [hf'] at c2; cases c2
    obtain ⟨o1, es, ep, e1, d1, _⟩ := c4
    obtain ⟨o2, e2, _, d2⟩ := hit2
    rw [e1] at e2; cases e2; rw [d1] at d2; cases d2) q
  have K4 : Stk G.base s₄.heap A (env :: l) := hS4.stk i4.frame off
  refine ex.note K4 hS.2.1 (fun L' z => by cases z) fun s₆ ex₆ => ?_
  refine ex₆.land (by simp) fun s₇ ex₇ => ?_
  have k4 : G.base.StaysIn s₄.heap := mI4.base k2 fun b z => z ▸ hIb
  have k7 := ex₇.stp.ext.base k4
  have F7 := i4.frame.ext ex₇.stp.ext
  refine wpAny_handleBy_builtin (X := "TypeError") (T := "TypeError") (b := true) te_exc te_meta sub_te_te ?_
  refine Name_function_global F7.kind (FE.kind rfl) (loadGlobal_builtin (by rw [F7.glob]; exact G.g.keeps k7) T.te (by rw [F7.blt]; exact G.b.keeps k7) ((G.bb "TypeError" (by decide)).trans rfl) ⟨rfl, ex₇.typeIs, ?_⟩) (by decide)
  rw [if_pos rfl]
  refine ex₇.land (by simp) fun s₈ ex₈ => ?_
  have st8 := ex₈.stp
  have i8 := i4.ext st8.ext
  obtain ⟨t8, tk8, ⟨oe, ws, Tb, oT, ts, he8, hc8, hd8, h08, h18, h28, _⟩, _⟩ := ex₈.it
  have hei : e ≠ I := fun z => by
    have := ex₈.new
    rw [z] at this
    obtain ⟨o, q, _⟩ := hit4
    rw [q] at this; cases this
  have m4 : Mv G.base (FrW env) s s₄ := ⟨fun b o w q => by
      obtain ⟨o1, e1, c1, d1, k1⟩ := m02.ext b o w q
      obtain ⟨o2, e2, c2, d2, k2⟩ := mI4.ext b o1 (fun z => by rw [z, hI0] at q; cases q) e1
      refine ⟨o2, e2, c2.trans c1, d2.trans d1, fun z => ?_⟩
      have := k1 z; subst this
      exact k2 z, fun b q => m02.dom b (mI4.dom b q), mI4.os.trans m02.os, m02.gens.trans mI4.gens⟩
  have m8 : Mv G.base (FrW env) s s₈ := m4.trans (st8.mv (W := FrW env)) fun _ w => .inl w
  have hh8 : ∀ {x v}, Holds env s₂.heap x v → Holds env s₈.heap x v := fun {x v} q => by
    have q4 : Holds env s₄.heap x v := by
      rcases q with ⟨kk, mm, ⟨o, es, ep, q, d, rr⟩, r⟩ | ⟨kk, c, lc, ⟨o, q, d⟩⟩
      · obtain ⟨o', q', _, d', _⟩ := mI4.ext _ o (fun z => hnI2 _ z (.inl (.inl rfl))) q
        exact .inl ⟨kk, mm, ⟨o', es, ep, q', d'.trans d, rr⟩, r⟩
      · obtain ⟨o', q', _, d', _⟩ := mI4.ext _ o (fun z => hnI2 _ z (.inl (.inr ⟨x, lc⟩))) q
        exact .inr ⟨kk, c, lc, ⟨o', q', d'.trans d⟩⟩
    exact q4.ext st8.ext
  have rs8 : RepAll (fun _ => True) s₈.heap vs ds := rs.extBut m8.ext (fun b _ nd => node_not_frame i.frame nd) fun _ _ _ => trivial
  refine wpAny_mono (suite_ok T FE (A := A.mark (some (.ref e))) (E := fun _ _ => False) (e := e) (I := I) (a := a) (vs := vs) (ds := ds) (m := m) (t := tat) rfl (by have := r.units; show A.units + 500 < cLine; omega) (st8.ext.base k4) i8.frame (hh8 hv) (hh8 hrow2) (hh8 hat2)
    (iter_same (W := fun _ => False) (base := G.base) (fun b o _ e => st8.ext b o e) id hit4) (st8.ext.list hla4) rs8 hml hdl hdat he8 hd8 h28 hei) (fun f s₉ z => ?_) fun _ _ x => x.elim
  obtain ⟨rfl, hk9, ho9, hg9⟩ := z
  have m9 : Mv G.base (FrW env) s s₉ := Mv.but m8 hI0 hk9 ho9 hg9
  have i9 : Inv G.base ok env [] s₉.heap := by
    have x9 : ExtBut G.base (· = I) s₈.heap s₉.heap := fun b o w q => ⟨o, hk9 b o w q, rfl, rfl, fun _ => rfl⟩
    refine (i8.sub (σ₀ := []) trivial (by simp [owned])).butW x9 (fun b q => i.fresh b (m9.dom b q)) (fun b z w => ?_) (fun b z _ nd => ?_)
    · subst z; exact w.elim hnI fun z => nomatch z
    · subst z
      obtain ⟨o, q, c, _⟩ := iter_same (W := fun _ => False) (base := G.base) (fun b o _ e => st8.ext b o e) id hit4
      exact not_node q c (by decide) nd
  exact ⟨.ret (.bool true), [], rfl, .bool _, i9, ⟨fun b o w q => m9.ext b o (fun z => w (.inl z)) q, m9.dom, m9.os, m9.gens⟩, m9.base k (fun b w => i.off b (.inl w)), fun b w => nomatch w⟩
end
end L10
end Mine
end
section
open PySem PySem.W PyProof.Rows PySem.Calls
set_option maxRecDepth 100000
namespace Mine
namespace L10
open PySem.Challenge
def coreOf (dp c : Nat) : List Nat := List.replicate dp 40 ++ [117] ++ [c] ++ List.replicate dp 41
/-- the fourteen kinds -/
def kindsOf (w : List Nat) : List (List Nat × Bool) := [(w, true), (w ++ [40], false), ([34, 40] ++ w ++ [34, 32] ++ w, true), ([41] ++ w, false), ([92, 40] ++ w, true), (w ++ [41, 40], false), ([34, 97, 92, 34, 41, 34, 32] ++ w, true), ([34, 40] ++ w, false),
  (w ++ [92], true), (w ++ [92, 92, 41], false), ([40, 39, 39, 44, 32, 39, 39, 41], true), ([34] ++ w ++ [41, 34, 32, 34] ++ w ++ [40], false), ([34] ++ w, true), (w ++ [41, 92, 40], false)]
def vOk (p : List Nat × Bool) : Bool := check p.1 == p.2 && decide (p.1.length ≤ 30) && p.1.all fun c => decide (c < 1114112)
theorem table0 : ((List.range 26).all fun j => (kindsOf (coreOf 0 (97 + j))).all vOk) = true := by decide +kernel
theorem table1 : ((List.range 26).all fun j => (kindsOf (coreOf 1 (97 + j))).all vOk) = true := by decide +kernel
theorem table2 : ((List.range 26).all fun j => (kindsOf (coreOf 2 (97 + j))).all vOk) = true := by decide +kernel
theorem table {dp j : Nat} (h1 : dp < 3) (h2 : j < 26) : ∀ p ∈ kindsOf (coreOf dp (97 + j)), vOk p = true := by
  have go : ∀ dp, ((List.range 26).all fun j => (kindsOf (coreOf dp (97 + j))).all vOk) = true → ∀ p ∈ kindsOf (coreOf dp (97 + j)), vOk p = true := fun dp h =>
    List.all_eq_true.mp (List.all_eq_true.mp h j (List.mem_range.mpr h2))
  match dp, h1 with
  | 0, _ => exact go 0 table0
  | 1, _ => exact go 1 table1
  | 2, _ => exact go 2 table2
structure VOk (p : List Nat × Bool) : Prop where
  check : check p.1 = p.2
  len : p.1.length ≤ 30
  good : Good p.1
theorem vOk_iff {p : List Nat × Bool} (h : vOk p = true) : VOk p := by
  unfold vOk at h
  simp only [Bool.and_eq_true, beq_iff_eq, decide_eq_true_eq, List.all_eq_true] at h
  exact ⟨h.1.1, h.1.2, h.2⟩
section
variable {G : Gr} {n : Nat} {env : Env} {σ : St}
def pairD (p : List Nat × Bool) : D := .tuple [.str (S p.1), .bool p.2]
theorem Ev.ad {a b : Expr} {p : Pos} {x y : List Nat} (ha : Ev G n env σ a (.str (S x))) (hb : Ev G n env σ b (.str (S y))) (h : x.length + y.length ≤ 1000) : Ev G n env σ (.BinOp a .Add b p) (.str (S (x ++ y))) :=
  (Ev.binop ha hb (.add_str (sz (by rw [S_length, S_length]; omega)))).cast (by rw [S_app])
theorem coreOf_len {dp c : Nat} (h : dp < 3) : (coreOf dp c).length ≤ 6 := by simp [coreOf]; omega
set_option maxHeartbeats 8000000 in
theorem value_ok {k : Int} (T : Tp G) {a : Addr} (F : FnAt G (df 6) a) : ∃ p, VOk p ∧ CallD G (n + 1) (.ref a) [.int k] (pairD p) := by
  have hk : 0 ≤ k.fmod 14 ∧ k.fmod 14 < 14 := ⟨Int.fmod_nonneg_of_pos _ (by decide), Int.fmod_lt_of_pos _ (by decide)⟩
  generalize hkd : k.fmod 14 = kd at hk
  generalize hq : k.fdiv 14 = q
  have hd : 0 ≤ q.fmod 3 ∧ q.fmod 3 < 3 := ⟨Int.fmod_nonneg_of_pos _ (by decide), Int.fmod_lt_of_pos _ (by decide)⟩
  generalize hdp : q.fmod 3 = dp at hd
  generalize hq2 : q.fdiv 3 = q2
  have hc : 0 ≤ q2.fmod 26 ∧ q2.fmod 26 < 26 := ⟨Int.fmod_nonneg_of_pos _ (by decide), Int.fmod_lt_of_pos _ (by decide)⟩
  have htab := table (dp := dp.toNat) (j := (q2.fmod 26).toNat) (by omega) (by omega)
  generalize hcc : 97 + (q2.fmod 26).toNat = c at htab
  have hlen : kd.toNat < (kindsOf (coreOf dp.toNat c)).length := by show _ < 14; omega
  have hget : (kindsOf (coreOf dp.toNat c))[kd.toNat]? = some (kindsOf (coreOf dp.toNat c))[kd.toNat] := List.getElem?_eq_getElem hlen
  refine ⟨(kindsOf (coreOf dp.toNat c))[kd.toNat], vOk_iff (htab _ (List.getElem_mem hlen)), ?_⟩
  generalize (kindsOf (coreOf dp.toNat c))[kd.toNat] = res at hget
  refine CallD.fn1 (x := "n") F fun env FE => ?_
  refine Ex.one (Ex1.assignT ((Ev.call (.builtin (FE.kind rfl) T.divmod rfl) (.builtin _) (.cons (.name rfl) (.cons .int .nil)) (.divmod (by decide) (by decide))).cast (d' := .tuple [.int q, .int kd]) (by rw [hkd, hq])) (.cons (.name (FE.loc rfl)) (.cons (.name (FE.loc rfl)) .nil))) ?_
  refine Ex.one (Ex1.assignT ((Ev.call (.builtin (FE.kind rfl) T.divmod rfl) (.builtin _) (.cons (.name rfl) (.cons .int .nil)) (.divmod (by decide) (by decide))).cast (d' := .tuple [.int q2, .int dp]) (by rw [hdp, hq2])) (.cons (.name (FE.loc rfl)) (.cons (.name (FE.loc rfl)) .nil))) ?_
  have hrep : ∀ x : Nat, (List.replicate dp.toNat [x]).flatten = List.replicate dp.toNat x := fun x => by
    generalize dp.toNat = t
    induction t with
    | zero => rfl
    | succ t ih => rw [List.replicate_succ, List.flatten_cons, ih, List.replicate_succ]; rfl
  have hrl : ∀ x : Nat, (List.replicate dp.toNat x).length ≤ 2 := fun x => by rw [List.length_replicate]; omega
  have times : ∀ {σ : St} {x : Nat} {kk : Nat} {p1 p2 p3 : Pos}, σ.lookup ("deep" : Str) = some (.val (.int dp)) → Ev G n env σ (.BinOp (.Constant (.str (S [x])) kk p1) .Mult (.Name "deep" p2) p3) (.str (S (List.replicate dp.toNat x))) := fun hl =>
    (Ev.binop .str (.name hl) (.mul_str hd.1 (by omega) (by simp))).cast (by rw [hrep])
  refine Ex.one (Ex1.assign (d := .str (S (coreOf dp.toNat c))) (Ev.ad (Ev.ad (Ev.ad (times rfl) (.str (x := S [117])) ?_) ((Ev.call (.builtin (FE.kind rfl) T.chr rfl) (.builtin _) (.cons (.binop .int (.binop (.name rfl) .int (.mod (by decide))) .add) .nil) (CallD.chr (by omega) (by omega))).cast (d' := .str (S [c])) ?_) ?_) (times rfl) ?_) (FE.loc rfl)) ?_
  · have := hrl 40; simp at *; omega
  · have : ((97 : Int) + q2.fmod 26).toNat = c := by omega
    rw [this]
  · have := hrl 40; simp at *; omega
  · have := hrl 40; have := hrl 41; simp at *; omega
  have hcl := coreOf_len (dp := dp.toNat) (c := c) (by omega)
  generalize coreOf dp.toNat c = w at hget hcl
  refine Ex.one (Ex1.assign (d := .tuple ((kindsOf w).map pairD)) (Ev.tuple (.cons (Ev.tuple (.cons (.name rfl) (.cons .bool .nil)) (by show 2 ≤ sizeLine; decide)) (.cons (Ev.tuple (.cons (Ev.ad (.name rfl) (.str (x := S [40])) (by simp; omega)) (.cons .bool .nil)) (by show 2 ≤ sizeLine; decide))
    (.cons (Ev.tuple (.cons (Ev.ad (Ev.ad (Ev.ad (.str (x := S [34, 40])) (.name rfl) (by simp; omega)) (.str (x := S [34, 32])) (by simp; omega)) (.name rfl) (by simp; omega)) (.cons .bool .nil)) (by show 2 ≤ sizeLine; decide))
    (.cons (Ev.tuple (.cons (Ev.ad (.str (x := S [41])) (.name rfl) (by simp; omega)) (.cons .bool .nil)) (by show 2 ≤ sizeLine; decide))
    (.cons (Ev.tuple (.cons (Ev.ad (.str (x := S [92, 40])) (.name rfl) (by simp; omega)) (.cons .bool .nil)) (by show 2 ≤ sizeLine; decide))
    (.cons (Ev.tuple (.cons (Ev.ad (.name rfl) (.str (x := S [41, 40])) (by simp; omega)) (.cons .bool .nil)) (by show 2 ≤ sizeLine; decide))
    (.cons (Ev.tuple (.cons (Ev.ad (.str (x := S [34, 97, 92, 34, 41, 34, 32])) (.name rfl) (by simp; omega)) (.cons .bool .nil)) (by show 2 ≤ sizeLine; decide))
    (.cons (Ev.tuple (.cons (Ev.ad (.str (x := S [34, 40])) (.name rfl) (by simp; omega)) (.cons .bool .nil)) (by show 2 ≤ sizeLine; decide))
    (.cons (Ev.tuple (.cons (Ev.ad (.name rfl) (.str (x := S [92])) (by simp; omega)) (.cons .bool .nil)) (by show 2 ≤ sizeLine; decide))
    (.cons (Ev.tuple (.cons (Ev.ad (.name rfl) (.str (x := S [92, 92, 41])) (by simp; omega)) (.cons .bool .nil)) (by show 2 ≤ sizeLine; decide))
    (.cons (Ev.tuple (.cons (.str (x := S [40, 39, 39, 44, 32, 39, 39, 41])) (.cons .bool .nil)) (by show 2 ≤ sizeLine; decide))
    (.cons (Ev.tuple (.cons (Ev.ad (Ev.ad (Ev.ad (Ev.ad (.str (x := S [34])) (.name rfl) (by simp; omega)) (.str (x := S [41, 34, 32, 34])) (by simp; omega)) (.name rfl) (by simp; omega)) (.str (x := S [40])) (by simp; omega)) (.cons .bool .nil)) (by show 2 ≤ sizeLine; decide))
    (.cons (Ev.tuple (.cons (Ev.ad (.str (x := S [34])) (.name rfl) (by simp; omega)) (.cons .bool .nil)) (by show 2 ≤ sizeLine; decide))
    (.cons (Ev.tuple (.cons (Ev.ad (.name rfl) (.str (x := S [41, 92, 40])) (by simp; omega)) (.cons .bool .nil)) (by show 2 ≤ sizeLine; decide)) .nil)))))))))))))) (by show 14 ≤ sizeLine; decide)) (FE.loc rfl)) ?_
  exact Ex.cons (Ex1.ret (Ev.itemT (.name rfl) (.name rfl) (.tuple hk.1 (by omega) (by rw [List.getElem?_map, hget]; rfl))).b rfl)
end
end L10
end Mine
end
section
open PySem PySem.W PyProof.Rows PySem.Calls
set_option maxRecDepth 100000
namespace Mine
namespace L10
open PySem.Challenge
section
variable {G : Gr} {n : Nat} {env : Env} {σ : St}
theorem rowsD_len (ps : List (List Nat)) : (rowsD ps).length = ps.length := by simp [rowsD]
theorem rowsD_data {ps : List (List Nat)} (h : ∀ p ∈ ps, Good p) {k : Nat} : (D.list (rowsD ps)).data (k + 1) = true := data_list fun d hd => by
  obtain ⟨p, hp, rfl⟩ := List.mem_map.mp hd
  exact (h p hp).data
theorem bad_good : Good bad := fun c hc => by simp [bad] at hc; omega
theorem pre_good {l : List Nat} (h : Good l) : Good (pre l) := by unfold pre; split; exact h; exact bad_good
set_option maxHeartbeats 4000000 in
/-- pre(iter(values)) -/
theorem iter_call {ls : List (List Nat)} {l : List Env} {x : Str} {p1 p2 p3 p4 p5 : Pos} (T : Tp G) (FE : FEnv env (df 7).scope) (hl : ∀ t ∈ ls, t.length ≤ 3000) (hn : ls.length ≤ 1000) {aP : Addr} (FP : FnAt G (df 4) aP) (hx : σ.lookup x = some (.val (.list (rowsD ls))))
    (hd : (x == ("__debug__" : Str)) = false := by decide) (hc : (x == ("__classdict__" : Str)) = false := by decide) :
    EvP G (n + 4) env (HS G.base env l) σ (.Call (.Name (df 4).name p1) [.Call (.Name "iter" p2) [.Name x p3] [] p4] [] p5) (.list (rowsD (ls.map pre))) := by
  intro ok A s E hS r k i
  obtain ⟨vrow, hrow, rrow⟩ := i.vals x _ hx
  cases rrow with
  | @list a vs _ oka hla rs =>
  refine Call_ (wpAny_mono ((fn_ev (n := n + 4) (σ := σ) FP (FE.kind rfl) : Ev G (n + 4) env σ (.Name (df 4).name p1) (.raw (.ref aP))) ok A s _ r k i) (fun v s₁ z => ?_) fun _ _ x => x)
  obtain ⟨st1, rp⟩ := z
  cases rp
  have i1 := i.ext st1.ext
  refine callWith_callee (G := G) FP.callee rfl (PyProof.Rows.args_cons ?_ rfl) rfl
  refine Call_ (wpAny_mono ((Ev.builtin (n := n + 4) (σ := σ) (FE.kind rfl) T.iterB rfl (hn := by decide) (hd := by decide) : Ev G (n + 4) env σ (.Name "iter" p2) (.raw (.builtin "iter"))) ok A s₁ E r (st1.ext.base k) i1) (fun v s₂ z => ?_) fun _ _ x => x)
  obtain ⟨st2, rp⟩ := z
  cases rp
  have st12 := st1.trans st2
  have i2 := i.ext st12.ext
  refine callWith_callee (G := G) (.builtin _) rfl (PyProof.Rows.args_cons (wpAny_holds i2.frame.kind (hrow.ext st12.ext) (PyProof.Rows.args_nil ⟨st12.ext.base k, ?_⟩) hd hc) rfl) rfl
  refine call_iter (st12.ext.list hla) ?_
  generalize hI : s₂.heap.objs.size = I
  generalize hoI : ({ cls := .type "list_iterator", data := .fields #[.ref a, .int 0 0] } : Obj) = oI
  have hoIf : oI.isFreed = false := by rw [← hoI]; rfl
  have hI2 : s₂.heap.get? I = none := by rw [← hI]; exact fresh_get
  have hI0 : s.heap.get? I = none := st12.ext.none hI2
  have st3 : Stp G.base s { s₂ with heap := s₂.heap.push oI } := st12.trans (.push (s := s₂) (tk := s₂.toks))
  have i3 := i.ext st3.ext
  have hitI : (s₂.heap.push oI).IsListIter I a 0 := ⟨oI, by rw [← hI]; exact Heap.get?_push_size _ hoIf, by rw [← hoI], by rw [← hoI]; rfl⟩
  have hIb : G.base.get? I = none := by
    cases q : G.base.get? I with
    | none => rfl
    | some o => rw [k I o q] at hI0; cases hI0
  refine PyProof.Rows.args_nil ⟨st3.ext.base k, ?_⟩
  have hlen : (rowsD ls).length = ls.length := rowsD_len ls
  refine pre_it (m := ls.length) (ds := rowsD ls) (l := env :: l) (ok := okO ok σ) (msg := "") T rfl (by omega) (fun j d hj hdj => ?_) (fun d hdm => ?_) (by omega) FP r (st3.ext.base k) i3.freshO ((hS.stk i.frame (i.off _ (.inl (.inl rfl)))).ext st3.ext) hitI (st3.ext.list hla) (rs.stp st3) oka (i.freshO I hI0) hIb (fun _ v s' e1 e2 e3 e4 => ?_) (fun z => by omega)
  · unfold rowsD at hdj
    rw [List.getElem?_map] at hdj
    obtain ⟨t, ht, rfl⟩ := Option.map_eq_some_iff.mp hdj
    exact ⟨t, ht, rfl, hl t (List.mem_of_getElem? ht)⟩
  · rw [List.getElem?_eq_none (by omega)] at hdm; cases hdm
  · refine ⟨⟨fun b o q => ?_, e2.trans st3.os, st3.gens.trans e3⟩, e4⟩
    obtain ⟨o1, q1, c1, d1, k1⟩ := st3.ext b o q
    obtain ⟨o2, q2, c2, d2, k2⟩ := e1 b o1 (fun z => by rw [z, hI0] at q; cases q) q1
    refine ⟨o2, q2, c2.trans c1, d2.trans d1, fun z => ?_⟩
    have := k1 z; subst this
    exact k2 z
end
end L10
end Mine
end
section
open PySem PySem.W PyProof.Rows PySem.Calls
set_option maxRecDepth 100000
namespace Mine
namespace L10
open PySem.Challenge
theorem check_one (c : Nat) : check [c] = !decide (c = 40 ∨ c = 41) := by
  have hs : strip [c] = [c] := by
    unfold strip
    by_cases h : 34 ∈ [c]
    · rw [if_pos h]
      have : c = 34 := (by simpa using h : 34 = c).symm
      subst this; decide
    · rw [if_neg h]
  unfold check
  rw [hs]
  unfold sound openAt
  by_cases h92 : c = 92
  · subst h92; decide
  · simp only [toks, h92, if_false, List.foldl_cons, List.foldl_nil, openStep]
    by_cases h40 : c = 40
    · subst h40; decide
    · by_cases h41 : c = 41
      · subst h41; decide
      · simp [h40, h41]
section
variable {G : Gr} {n : Nat} {env : Env} {σ : St}
theorem oddOf {k : Nat} (hk : k < 3) : ∃ d msg, ([D.none, D.int 7, D.bytes [40, 41].toArray] : List D)[k]? = some d ∧ Odd G d msg := by
  match k, hk with
  | 0, _ => exact ⟨_, _, rfl, fun n y => CmpX.notIn_none⟩
  | 1, _ => exact ⟨_, _, rfl, fun n y => CmpX.notIn_int⟩
  | 2, _ => exact ⟨_, _, rfl, fun n y => CmpX.notIn_bytes⟩
set_option maxHeartbeats 8000000 in
theorem rest_ok {ns : List Int} {xs : List (List Nat)} {l : List Env} (T : Tp G) (hn : ns.length ≤ 63) (FE : FEnv env (df 7).scope) (hgood : ∀ t ∈ xs, Good t) (hshort : ∀ t ∈ xs, t.length ≤ 3000) (hxl : xs.length ≤ 25) (hxne : xs ≠ []) (body : List Stmt) (hbody : body = (df 7).body.drop 4) :
    ExP G (n + 4) env (HS G.base env l) [("script", .val (.list (ns.map .int))), ("values", .val (.list (rowsD xs))), ("want", .val (.list (rowsD (xs.map pre))))] body fun fl _ => fl = .ret (.bool true) := by
  subst hbody
  obtain ⟨aP, FP⟩ := T.preF
  have R : Rd G.base env (fpS l) (HS G.base env l) := rdS
  have hsl : (ns.map D.int).length = ns.length := List.length_map ..
  have len : ∀ {m : Nat} {σ : St} {p1 p2 p3 : Pos}, σ.lookup ("script" : Str) = some (.val (.list (ns.map .int))) → Ev G m env σ (.Call (.Name "len" p1) [.Name "script" p2] [] p3) (.int (ns.length : Nat)) := fun hl =>
    (Ev.call (.builtin (FE.kind rfl) T.len rfl) (.builtin _) (.cons (.name hl) .nil) (.len_list (by rw [hsl]; omega))).cast (by rw [hsl])
  have hrl := rowsD_len xs
  have hd0 := rowsD_data (k := 0) hgood
  have hdp := rowsD_data (k := 0) (ps := xs.map pre) fun t ht => by
    obtain ⟨q, hq, rfl⟩ := List.mem_map.mp ht
    exact pre_good (hgood q hq)
  -- kept
  refine ExP.step R (.of (Ex1.assignF (EvF.listOf (FE.kind rfl) T.list (.name rfl) (.inl rfl) (by rw [hrl]; unfold sizeLine; omega)) (FE.loc rfl))) ?_
  rintro _ ⟨ak, rfl⟩
  refine ExP.freeze (x := "kept") rfl ?_
  -- got
  refine ExP.step R (.of (Ex1.assignF (EvF.call (fn_ev FP (FE.kind rfl)) FP.callee (.cons (.name rfl) .nil) (pre_new (n := n) T hshort (by omega) .list FP)) (FE.loc rfl))) ?_
  rintro _ ⟨ag, rfl⟩
  refine ExP.cons R (ExP1.of (Ex1.ite (c := false) (Tr.or (c := false) (c' := false) ((Tr.cmp (Ev.callB (.builtin (FE.kind rfl) T.type rfl) (.type _) (.cons (.own rfl) .nil) .type_list rfl).b (Ev.builtin (FE.kind rfl) T.list rfl).b .isNot_type).cast (by decide)) fun _ =>
    Tr.or (c := false) (c' := false) (Tr.isOwn rfl rfl) fun _ => Tr.or (c := false) (c' := false) ((Tr.cmp (EvB.own rfl) (Ev.name rfl).b (.ne hdp hdp (by decide))).cast (by rw [eqb_refl hdp]; rfl)) fun _ => .or_nil) nofun (fun _ => Ex.nil ?_)))
  -- values != kept or pre(tuple(values)) != want
  refine ExP.cons R (ExP1.of (Ex1.ite (c := false) (Tr.or (c := false) (c' := false) ((Tr.cmp (Ev.name rfl).b (Ev.name rfl).b (.ne hd0 hd0 (by decide))).cast (by rw [eqb_refl hd0]; rfl)) fun _ =>
    Tr.or (c := false) (c' := false) ((Tr.cmp (Ev.call (fn_ev FP (FE.kind rfl)) FP.callee (.cons (Ev.call (.builtin (FE.kind rfl) T.tuple rfl) (.type _) (.cons (.name rfl) .nil) (.tupleOf (by rw [hrl]; unfold sizeLine; omega))) .nil) (pre_new (n := n) T hshort (by omega) .tuple FP).d).b (Ev.name rfl).b (.ne hdp hdp (by decide))).cast (by rw [eqb_refl hdp]; rfl)) fun _ => .or_nil) nofun (fun _ => Ex.nil ?_)))
  -- pre(iter(values)) != want
  refine ExP.cons R (ExP1.ite R (c := false) ((TrP.cmp R (iter_call T FE hshort (by omega) FP rfl) (.of (.name rfl)) (.ne hdp hdp (by decide))).cast (by rw [eqb_refl hdp]; rfl)) nofun (fun _ => ExP.nil ?_))
  -- signs
  obtain ⟨ys, y, rfl⟩ : ∃ ys y, xs = ys ++ [y] := ⟨xs.dropLast, xs.getLast hxne, (List.dropLast_concat_getLast hxne).symm⟩
  have hyg : Good y := hgood y (by simp)
  have hyl : y.length ≤ 3000 := hshort y (by simp)
  have hlast : ∀ {m : Nat} {σ : St} {p1 p2 p3 p4 : Pos} {kk : Nat}, σ.lookup ("values" : Str) = some (.val (.list (rowsD (ys ++ [y])))) → Ev G m env σ (.Subscript (.Name "values" p1) (.UnaryOp .USub (.Constant (.int 1) kk p2) p3) p4) (.str (S y)) := fun hl =>
    Ev.item (.name hl) (.neg .int) (.list_neg (by decide) (by rw [hrl]; simp; omega) (by decide) (by
      rw [hrl]
      have e : (-1 + (((ys ++ [y]).length : Nat) : Int)).toNat = ys.length := by simp; omega
      rw [e]; simp [rowsD]))
  have hsig : signs (S y) = rowsD (y.map fun c => [c]) := by rw [signs_S]; simp [rowsD]
  have hp1 : ∀ c : Nat, pre [c] = if c = 40 ∨ c = 41 then bad else [c] := fun c => by
    unfold pre
    rw [check_one]
    by_cases h : c = 40 ∨ c = 41 <;> simp [h]
  refine ExP.step R (.of (Ex1.assignComp (CompOk.mk' (σc := []) (ds := signs (S y)) (f := fun d => setS "sign" (.val d)) (keep := fun _ => true)
      (res := fun d => match d with | .str c => .str (if Txt.contains (S [40, 41]) c then S bad else c) | _ => .none) (out := rowsD ((y.map fun c => [c]).map pre)) FE trivial (.of_ev (hlast rfl) .str) (fun d _ => trivial) (fun cenv CE d hd => ?_) ?_ ?_) (FE.loc rfl) (FE.swaps fun _ => rfl))) ?_
  · rw [signs_S] at hd
    obtain ⟨c, hc, rfl⟩ := List.mem_map.mp hd
    refine ⟨.name (CE.loc rfl), .nil, fun _ => Ev.ifexp (c := !Txt.contains (S [40, 41]) (S [c])) (Tr.cmp (Ev.name rfl).b (Ev.str (x := S [40, 41])).b .notIn_str) (fun h => ?_) (fun h => ?_)⟩
    · show Ev G (n + 4) cenv _ _ (.str (if Txt.contains (S [40, 41]) (S [c]) then S bad else S [c]))
      rw [if_neg (by simpa using h)]; exact .name rfl
    · show Ev G (n + 4) cenv _ _ (.str (if Txt.contains (S [40, 41]) (S [c]) then S bad else S [c]))
      rw [if_pos (by simpa using h)]; exact .str
  · rw [hsig, rowsD_len, List.length_map]; unfold sizeLine; omega
  · rw [List.filter_eq_self.mpr (by simp), signs_S, List.map_map]
    unfold rowsD
    rw [List.map_map, List.map_map]
    refine List.map_congr_left fun c hc => ?_
    show D.str (if Txt.contains (S [40, 41]) (S [c]) then S bad else S [c]) = D.str (S (pre [c]))
    rw [contains_one, hp1]
    by_cases h : c = 40 ∨ c = 41
    · have h' : c ∈ [40, 41] := by simpa using h
      simp [h, h']
    · have h' : c ∉ [40, 41] := by simpa using h
      simp [h, h']
  rintro _ ⟨as, rfl⟩
  refine ExP.freeze (x := "signs") rfl ?_
  have hds := rowsD_data (k := 0) (ps := (y.map fun c => [c]).map pre) fun t ht => by
    obtain ⟨q, hq, rfl⟩ := List.mem_map.mp ht
    obtain ⟨c, hc, rfl⟩ := List.mem_map.mp hq
    exact pre_good fun e he => by rw [List.mem_singleton.mp he]; exact hyg c hc
  refine ExP.cons R (ExP1.of (Ex1.ite (c := false) ((Tr.cmp (Ev.call (fn_ev FP (FE.kind rfl)) FP.callee (.cons (hlast rfl) .nil) (pre_new (n := n) T (ls := y.map fun c => [c]) (fun t ht => by obtain ⟨c, _, rfl⟩ := List.mem_map.mp ht; simp) (by simp; omega) (by rw [← hsig]; exact .str) FP).d).b (Ev.name rfl).b (.ne hds hds (by decide))).cast (by rw [eqb_refl hds]; rfl)) nofun (fun _ => Ex.nil ?_)))
  -- at
  have hpos : (0 : Int) < (((ys ++ [y]).length : Nat) : Int) + 1 := by omega
  obtain ⟨m, hm, hmle⟩ : ∃ m : Nat, ns.sum.fmod ((((ys ++ [y]).length : Nat) : Int) + 1) = (m : Int) ∧ m ≤ (ys ++ [y]).length := by
    have h1 := Int.fmod_nonneg_of_pos ns.sum hpos
    have h2 := Int.fmod_lt_of_pos ns.sum hpos
    exact ⟨(ns.sum.fmod ((((ys ++ [y]).length : Nat) : Int) + 1)).toNat, by omega, by omega⟩
  refine ExP.one R (.of (Ex1.assign (d := .int (m : Nat)) ((Ev.binop (Ev.call (.builtin (FE.kind rfl) T.sum rfl) (.builtin _) (.cons (.name rfl) .nil) .sum) (Ev.binop ((Ev.call (.builtin (FE.kind rfl) T.len rfl) (.builtin _) (.cons (.name rfl) .nil) (.len_list (by rw [hrl]; omega))).cast (d' := .int ((ys ++ [y]).length : Nat)) (by rw [hrl])) .int .add) (.mod (by omega))).cast (by rw [hm])) (FE.loc rfl))) ?_
  -- odd
  have hk3 : 0 ≤ (((ns.length : Nat) : Int)).fmod 3 ∧ (((ns.length : Nat) : Int)).fmod 3 < 3 := ⟨Int.fmod_nonneg_of_pos _ (by decide), Int.fmod_lt_of_pos _ (by decide)⟩
  obtain ⟨od, msg, hod, hodd⟩ := oddOf (G := G) (k := ((((ns.length : Nat) : Int)).fmod 3).toNat) (by omega)
  refine ExP.one R (.of (Ex1.assign (d := od) (Ev.itemT (ds := [D.none, D.int 7, D.bytes [40, 41].toArray]) (Ev.tuple (.cons .none (.cons .int (.cons .bytes .nil))) (by show 3 ≤ sizeLine; decide)) (.binop (len rfl) .int (.mod (by decide))) (.tuple hk3.1 (by omega) hod)) (FE.loc rfl))) ?_
  -- row
  have hat : (rowsD ((ys ++ [y]).take m)).length + 1 ≤ 26 := by rw [rowsD_len, List.length_take]; omega
  refine ExP.one R (.of (Ex1.assign (d := .list (rowsD ((ys ++ [y]).take m) ++ od :: rowsD ((ys ++ [y]).drop m))) ((Ev.binop (Ev.binop (Ev.item (.name rfl) (.slice .none (.some (.name rfl)) .none) (.slice rfl rfl rfl nofun (by rw [hrl]; unfold sizeLine; omega))) (Ev.list (.cons (.name rfl) .nil) (by show 1 ≤ sizeLine; decide)) (.add_list ?_)) (Ev.item (.name rfl) (.slice (.some (.name rfl)) .none .none) (.slice rfl rfl rfl nofun (by rw [hrl]; unfold sizeLine; omega))) (.add_list ?_)).cast ?_) (FE.loc rfl))) ?_
  · refine Nat.le_trans (Nat.add_le_add_right (pickD_length_le _ _ _ _) _) ?_
    rw [hrl]; unfold sizeLine; simp; simp at hxl; omega
  · rw [List.length_append]
    refine Nat.le_trans (Nat.add_le_add (Nat.add_le_add_right (pickD_length_le _ _ _ _) _) (pickD_length_le _ _ _ _)) ?_
    rw [hrl]; unfold sizeLine; simp; simp at hxl; omega
  · show D.list ((pickD (rowsD (ys ++ [y])) none (some ((m : Nat) : Int)) none ++ [od]) ++ pickD (rowsD (ys ++ [y])) (some ((m : Nat) : Int)) none none) = _
    rw [pickD_upto, pickD_from]; simp [rowsD]
  have hm2 : ((ys ++ [y]).take m).length = m := by rw [List.length_take]; omega
  have hrm : (rowsD ((ys ++ [y]).take m)).length = m := by rw [rowsD_len, hm2]
  refine ExP.only (σ₀ := [("row", .val (.list (rowsD ((ys ++ [y]).take m) ++ od :: rowsD ((ys ++ [y]).drop m)))), ("at", .val (.int (m : Nat)))]) ⟨rfl, rfl, trivial⟩ ?_
  refine tail_ok (msg := msg) (ls := (ys ++ [y]).take m) T FE hm2 (by omega) (fun j d hj hd => ?_) (fun d hd => ?_) ?_ ?_ ?_ _ rfl
  · rw [List.getElem?_append_left (by omega)] at hd
    unfold rowsD at hd
    rw [List.getElem?_map] at hd
    obtain ⟨t, ht, rfl⟩ := Option.map_eq_some_iff.mp hd
    exact ⟨t, ht, rfl, hshort t (List.mem_of_mem_take (List.mem_of_getElem? ht))⟩
  · rw [List.getElem?_append_right (by omega), hrm] at hd
    simp at hd
    subst hd; exact hodd
  · rw [List.length_append, hrm, List.length_cons]; omega
  · rw [List.length_append, hrm, List.length_cons, rowsD_len, List.length_drop]; omega
  · have e : (rowsD ((ys ++ [y]).take m) ++ od :: rowsD ((ys ++ [y]).drop m)).drop (m + 1) = rowsD ((ys ++ [y]).drop m) := by
      rw [List.drop_append, List.drop_of_length_le (by omega), hrm, show m + 1 - m = 1 by omega]; rfl
    rw [e]
    exact rowsD_data fun t ht => hgood t (List.mem_of_mem_drop ht)
end
end L10
end Mine
end
section
open PySem PySem.W PyProof.Rows PySem.Calls
set_option maxRecDepth 100000
namespace Mine
namespace L10
open PySem.Challenge
section
variable {G : Gr} {n : Nat} {env : Env} {σ : St}
set_option maxHeartbeats 8000000 in
theorem law_call {ns : List Int} (T : Tp G) (hn : ns.length ≤ 63) {a : Addr} (F : FnAt G (df 7) a) : CallP G (n + 5) (.ref a) [.list (ns.map .int)] (.bool true) := by
  obtain ⟨aP, FP⟩ := T.preF
  obtain ⟨aV, FV⟩ := T.value
  have hall : ∀ k : Int, ∃ p, VOk p ∧ CallD G (n + 4) (.ref aV) [.int k] (pairD p) := fun k => value_ok (n := n + 3) (k := k) T FV
  obtain ⟨pf, hpf⟩ := Classical.axiomOfChoice hall
  refine CallP.fn1 (x := "script") F (fun env l FE => ?_)
  have R : Rd G.base env (fpS l) (HS G.base env l) := rdS
  have hsl : (ns.map D.int).length = ns.length := List.length_map ..
  have len : ∀ {m : Nat} {σ : St} {p1 p2 p3 : Pos}, σ.lookup ("script" : Str) = some (.val (.list (ns.map .int))) → Ev G m env σ (.Call (.Name "len" p1) [.Name "script" p2] [] p3) (.int (ns.length : Nat)) := fun hl =>
    (Ev.call (.builtin (FE.kind rfl) T.len rfl) (.builtin _) (.cons (.name hl) .nil) (.len_list (by rw [hsl]; omega))).cast (by rw [hsl])
  -- cells
  obtain ⟨r, hr, hr9⟩ : ∃ r : Nat, (if ((ns.length : Nat) : Int) < 24 then ((ns.length : Nat) : Int) else 24) = (r : Int) ∧ r ≤ 24 := by
    split
    · exact ⟨ns.length, rfl, by omega⟩
    · exact ⟨24, rfl, by omega⟩
  refine ExP.step R (.of (Ex1.assignComp (CompOk.mk' (σc := [("script", .val (.list (ns.map .int)))]) (ds := nums (List.range r)) (f := fun d => setS "k" (.val d)) (keep := fun _ => true)
      (res := fun d => .int (pickD ns (some ((posOf d : Nat) : Int)) none (some 24)).sum) (out := ((List.range r).map fun k => (pickD ns (some ((k : Nat) : Int)) none (some 24)).sum).map .int) FE ⟨⟨rfl, rfl, FE.kind rfl⟩, trivial⟩
      (.of_ev ((Ev.call (.builtin (FE.kind rfl) T.range rfl) (.type _) (.cons ((Ev.call (.builtin (FE.kind rfl) T.min rfl) (.builtin _) (.cons .int (.cons (len rfl) .nil)) .min2).cast (d' := .int (r : Int)) (by rw [hr])) .nil) .range)) ?_) (fun d _ => ⟨rfl, trivial⟩) (fun cenv CE d hd => ?_) ?_ ?_) (FE.loc rfl) (FE.swaps fun _ => rfl))) ?_
  · rw [← rng_nums]
    exact .rng (by decide) (by decide) (by omega) (by omega)
  · obtain ⟨k, hk, rfl⟩ := List.mem_map.mp hd
    refine ⟨.name (CE.loc rfl), .nil, fun _ => ?_⟩
    refine (Ev.call (.builtin (CE.glob rfl) T.sum rfl) (.builtin _) (.cons ((Ev.item (.name rfl) (.slice (.some (.name rfl)) .none (.some .int)) (.slice rfl rfl rfl (by simp [D.part]) (by rw [hsl]; unfold sizeLine; omega))).cast (d' := .list ((pickD ns (some ((k : Nat) : Int)) none (some 24)).map .int)) ?_) .nil) .sum).cast ?_
    · show D.list (pickD (ns.map D.int) (some ((k : Nat) : Int)) none (some 24)) = _
      rw [pickD_map]
    · simp [posOf]
  · simp [nums]; unfold sizeLine; omega
  · rw [List.filter_eq_self.mpr (by simp), nums_map _ fun j => .int (pickD ns (some ((j : Nat) : Int)) none (some 24)).sum, List.map_map]; rfl
  rintro _ ⟨ac, rfl⟩
  refine ExP.freeze (x := "cells") rfl ?_
  generalize hcs : ((List.range r).map fun k => (pickD ns (some ((k : Nat) : Int)) none (some 24)).sum) = cs
  have hcl : cs.length ≤ 24 := by rw [← hcs]; simpa using hr9
  -- made
  refine ExP.step R (.of (Ex1.assignComp (CompOk.mk' (σc := []) (ds := (cs ++ [((ns.length : Nat) : Int)]).map .int) (f := fun d => setS "n" (.val d)) (keep := fun _ => true)
      (res := fun d => match d with | .int k => pairD (pf k) | _ => .none) (out := ((cs ++ [((ns.length : Nat) : Int)]).map pf).map pairD) FE trivial
      (.of_ev ((Ev.binop (.name rfl) (Ev.list (.cons (len rfl) .nil) (by show 1 ≤ sizeLine; decide)) (.add_list (by simp; unfold sizeLine; omega))).cast (d' := .list ((cs ++ [((ns.length : Nat) : Int)]).map .int)) (by simp)) .list) (fun d _ => trivial) (fun cenv CE d hd => ?_) ?_ ?_) (FE.loc rfl) (FE.swaps fun _ => rfl))) ?_
  · obtain ⟨k, hk, rfl⟩ := List.mem_map.mp hd
    exact ⟨.name (CE.loc rfl), .nil, fun _ => .call (fn_ev FV (CE.glob rfl)) FV.callee (.cons (.name rfl) .nil) (hpf k).2⟩
  · simp; unfold sizeLine; omega
  · rw [List.filter_eq_self.mpr (by simp), List.map_map, List.map_map]; rfl
  rintro _ ⟨am, rfl⟩
  refine ExP.freeze (x := "made") rfl ?_
  have hvok : ∀ p ∈ (cs ++ [((ns.length : Nat) : Int)]).map pf, VOk p := fun p hp => by
    obtain ⟨k, _, rfl⟩ := List.mem_map.mp hp
    exact (hpf k).1
  have hvl : ((cs ++ [((ns.length : Nat) : Int)]).map pf).length ≤ 25 := by simp; omega
  have hvne : (cs ++ [((ns.length : Nat) : Int)]).map pf ≠ [] := by simp
  generalize (cs ++ [((ns.length : Nat) : Int)]).map pf = vs at hvok hvl hvne
  have hpre : ∀ p ∈ vs, pre p.1 = if p.2 then p.1 else bad := fun p hp => by unfold pre; rw [(hvok p hp).check]
  -- values
  have ass : ∀ {cenv : Env} {sc : Scope} {p : List Nat × Bool} {p1 p2 p3 : Pos} {kk : Nat}, CEnv cenv sc → sc.names.lookup ("value" : Str) = some .local → sc.names.lookup ("good" : Str) = some .local → AssC G (n + 4) cenv (.Tuple [.Name "value" p1, .Name "good" p2] kk p3) (pairD p) (pairS "value" "good" (pairD p)) := by
    intro cenv sc p p1 p2 p3 kk CE h1 h2
    have a2 : AssCL G (n + 4) cenv [.Name "good" p2] [.bool p.2] (fun σ => id (setS "good" (.val (.bool p.2)) σ)) := AssCL.cons (f := setS "good" (.val (.bool p.2))) (g := id) (.name (CE.loc h2)) .nil
    have a1 : AssCL G (n + 4) cenv [.Name "value" p1, .Name "good" p2] [.str (S p.1), .bool p.2] (fun σ => (fun σ => id (setS "good" (.val (.bool p.2)) σ)) (setS "value" (.val (.str (S p.1))) σ)) := AssCL.cons (f := setS "value" (.val (.str (S p.1)))) (.name (CE.loc h1)) a2
    exact AssC.tuple a1 rfl
  refine ExP.step R (.of (Ex1.assignComp (CompOk.mk' (σc := []) (ds := vs.map pairD) (f := pairS "value" "good") (keep := fun _ => true)
      (res := fun d => match d with | .tuple (v :: _) => v | _ => .none) (out := rowsD (vs.map (·.1))) FE trivial (.of_ev (.name rfl) .list) (fun d _ => trivial) (fun cenv CE d hd => ?_) ?_ ?_) (FE.loc rfl) (FE.swaps fun _ => rfl))) ?_
  · obtain ⟨p, hp, rfl⟩ := List.mem_map.mp hd
    exact ⟨ass CE rfl rfl, .nil, fun _ => .name rfl⟩
  · simp; unfold sizeLine; omega
  · rw [List.filter_eq_self.mpr (by simp), List.map_map]; simp [rowsD, pairD, Function.comp]
  rintro _ ⟨av, rfl⟩
  refine ExP.freeze (x := "values") rfl ?_
  -- want
  refine ExP.step R (.of (Ex1.assignComp (CompOk.mk' (σc := []) (ds := vs.map pairD) (f := pairS "value" "good") (keep := fun _ => true)
      (res := fun d => match d with | .tuple [.str v, .bool g] => .str (if g then v else S bad) | _ => .none) (out := rowsD ((vs.map (·.1)).map pre)) FE trivial (.of_ev (.name rfl) .list) (fun d _ => trivial) (fun cenv CE d hd => ?_) ?_ ?_) (FE.loc rfl) (FE.swaps fun _ => rfl))) ?_
  · obtain ⟨p, hp, rfl⟩ := List.mem_map.mp hd
    refine ⟨ass CE rfl rfl, .nil, fun _ => Ev.ifexp (c := p.2) (Tr.plain (Ev.name rfl).b .bool) (fun h => ?_) (fun h => ?_)⟩
    · show Ev G (n + 4) cenv _ _ (.str (if p.2 then S p.1 else S bad))
      rw [h, if_pos rfl]; exact .name rfl
    · show Ev G (n + 4) cenv _ _ (.str (if p.2 then S p.1 else S bad))
      rw [h, if_neg (by decide)]; exact .str
  · simp; unfold sizeLine; omega
  · rw [List.filter_eq_self.mpr (by simp), List.map_map]
    unfold rowsD
    rw [List.map_map, List.map_map]
    refine List.map_congr_left fun p hp => ?_
    show D.str (if p.2 then S p.1 else S bad) = D.str (S (pre p.1))
    rw [hpre p hp]
    split <;> rfl
  rintro _ ⟨aw, rfl⟩
  refine ExP.freeze (x := "want") rfl ?_
  have hgood : ∀ t ∈ vs.map (·.1), Good t := fun t ht => by
    obtain ⟨p, hp, rfl⟩ := List.mem_map.mp ht
    exact (hvok p hp).good
  have hshort : ∀ t ∈ vs.map (·.1), t.length ≤ 3000 := fun t ht => by
    obtain ⟨p, hp, rfl⟩ := List.mem_map.mp ht
    have := (hvok p hp).len; omega
  have hxl : (vs.map (·.1)).length ≤ 25 := by simpa using hvl
  have hxne : vs.map (·.1) ≠ [] := by simpa using hvne
  exact ExP.only (σ₀ := [("script", .val (.list (ns.map .int))), ("values", .val (.list (rowsD (vs.map (·.1))))), ("want", .val (.list (rowsD ((vs.map (·.1)).map pre))))]) ⟨rfl, rfl, rfl, trivial⟩ (rest_ok T hn FE hgood hshort hxl hxne _ rfl)
end
end L10
end Mine
end
section
open PySem PySem.W PyProof.Rows
set_option maxRecDepth 100000 in
set_option maxHeartbeats 8000000 in
theorem PySem.Challenge.cw_dm0097_10_holds : PySem.Challenge.rw_dm0097_10.Holds := by
  w_on; o_law; k_head; (case hw => w_witness2)
  k_fill
  intro w s₀ s₁ mg mb G Y fa o pm cd doc dV kV ho hd hcd hD hmg hg args vals as hpre hlay hrd hwl hlo
  refine Ground.open G ?_
  intro T B D TE TW
  clear hd hcd hD
  wrow_args hpre hlay hrd hwl hlo
  rename_i hL _ _ _ hI _ hc _
  refine Mine.law_finP T hL hI hg (Mine.L10.law_call (n := 0) (F := Mine.fnAt_law T hmg 5 (by kernel_rfl)) ?tp ?len) (by decide) (by intro _; rfl) ?post
  case post => wrow_post
  case len => omega
  case tp => exact {
    len := Mine.free_of T _ (by decide +kernel)
    enum := Mine.free_of T _ (by decide +kernel)
    iter := Mine.fnAt_of T 0 (by kernel_rfl)
    strip := Mine.fnAt_of T 1 (by kernel_rfl)
    check := Mine.fnAt_of T 2 (by kernel_rfl)
    range := Mine.free_of T _ (by decide +kernel)
    sum := Mine.free_of T _ (by decide +kernel)
    min := Mine.free_of T _ (by decide +kernel)
    divmod := Mine.free_of T _ (by decide +kernel)
    chr := Mine.free_of T _ (by decide +kernel)
    list := Mine.free_of T _ (by decide +kernel)
    tuple := Mine.free_of T _ (by decide +kernel)
    type := Mine.free_of T _ (by decide +kernel)
    iterB := Mine.free_of T _ (by decide +kernel)
    te := Mine.free_of T _ (by decide +kernel)
    preF := Mine.fnAt_of T 3 (by kernel_rfl)
    value := Mine.fnAt_of T 4 (by kernel_rfl) }
end
