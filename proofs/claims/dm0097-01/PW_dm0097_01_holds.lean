import PyProof.Rows.All
import Wide.All
import OpenK.AllK
import Wide.FinOn
import PySem.Challenge.RW_dm0097_01
set_option Elab.async false
set_option linter.unusedVariables false
set_option linter.unusedSimpArgs false
section
open PySem PySem.W PyProof.Rows
set_option maxRecDepth 100000
namespace Mine
/-- deep data: what a value says, all the way down -/
inductive D where
  | none
  | bool (b : Bool)
  | int (i : Int)
  | str (x : Str)
  | bytes (b : Array UInt8)
  | raw (v : Value)
  | tuple (ds : List D)
  | list (ds : List D)
  | slice (l u st : D)
  | rng (lo hi : Int)
mutual
inductive Rep (ok : Addr → Prop) (h : Heap) : Value → D → Prop
  | none : Rep ok h .none .none
  | bool (b : Bool) : Rep ok h (.bool b) (.bool b)
  | int (i : Int) (t : Tok) : Rep ok h (.int i t) (.int i)
  | str (x : Str) (t : Tok) : Rep ok h (.str x t) (.str x)
  | bytes (b : Array UInt8) (t : Tok) : Rep ok h (.bytes b t) (.bytes b)
  | raw (v : Value) : Rep ok h v (.raw v)
  | tuple {a : Addr} {vs : List Value} {ds : List D} : ok a → IsTup h a vs.toArray → RepAll ok h vs ds → Rep ok h (.ref a) (.tuple ds)
  | list {a : Addr} {vs : List Value} {ds : List D} : ok a → h.IsList a vs.toArray → RepAll ok h vs ds → Rep ok h (.ref a) (.list ds)
  | slice {a : Addr} {o : Obj} {v1 v2 v3 : Value} {l u st : D} : ok a → h.get? a = some o → o.cls = .type "slice" → o.data = .fields #[v1, v2, v3] → Rep ok h v1 l → Rep ok h v2 u → Rep ok h v3 st → Rep ok h (.ref a) (.slice l u st)
  | rng {a : Addr} {lo hi : Int} {t1 t2 t3 : Tok} : ok a → IsRange h a lo hi 1 t1 t2 t3 → Rep ok h (.ref a) (.rng lo hi)
inductive RepAll (ok : Addr → Prop) (h : Heap) : List Value → List D → Prop
  | nil : RepAll ok h [] []
  | cons {v : Value} {vs : List Value} {d : D} {ds : List D} : Rep ok h v d → RepAll ok h vs ds → RepAll ok h (v :: vs) (d :: ds)
end
def isDict : Data → Bool
  | .dict .. => true
  | _ => false
/-- what stood stands: plain objects to the sign, namespaces up to their marks -/
def Ext (base h h' : Heap) : Prop := ∀ b o, h.get? b = some o → ∃ o', h'.get? b = some o' ∧ o'.cls = o.cls ∧ o'.data = o.data ∧ ((base.get? b).isSome = true ∨ isDict o.data = false → o' = o)
theorem Ext.of_stays {base h h' : Heap} (k : ∀ b o, h.get? b = some o → h'.get? b = some o) : Ext base h h' := fun b o e => ⟨o, k b o e, rfl, rfl, fun _ => rfl⟩
theorem Ext.refl {base h : Heap} : Ext base h h := .of_stays fun _ _ e => e
theorem Ext.trans {base h₁ h₂ h₃ : Heap} (x : Ext base h₁ h₂) (y : Ext base h₂ h₃) : Ext base h₁ h₃ := by
  intro b o e
  obtain ⟨o', e', c', d', k'⟩ := x b o e
  obtain ⟨o'', e'', c'', d'', k''⟩ := y b o' e'
  refine ⟨o'', e'', c''.trans c', d''.trans d', fun q => ?_⟩
  have := k' q; subst this
  exact k'' q
theorem Ext.base {base h h' : Heap} (x : Ext base h h') (k : base.StaysIn h) : base.StaysIn h' := by
  intro b o e
  obtain ⟨o', e', _, _, k'⟩ := x b o (k b o e)
  rw [e', k' (.inl (by rw [e]; rfl))]
theorem Ext.list {base h h' : Heap} {a : Addr} {items : Array Value} (x : Ext base h h') (l : h.IsList a items) : h'.IsList a items := by
  obtain ⟨o, e, c, n, d⟩ := l
  obtain ⟨o', e', c', d', _⟩ := x a o e
  exact ⟨o', e', c'.trans c, n, d'.trans d⟩
theorem Ext.tup {base h h' : Heap} {a : Addr} {items : Array Value} (x : Ext base h h') (l : IsTup h a items) : IsTup h' a items := by
  obtain ⟨o, e, c, n, d⟩ := l
  obtain ⟨o', e', c', d', _⟩ := x a o e
  exact ⟨o', e', c'.trans c, n, d'.trans d⟩
theorem Ext.ns {base h h' : Heap} {a : Addr} {m : Str → Option Value} (x : Ext base h h') (l : h.Ns a m) : h'.Ns a m := by
  obtain ⟨o, es, ep, e, d, r⟩ := l
  obtain ⟨o', e', _, d', _⟩ := x a o e
  exact ⟨o', es, ep, e', d'.trans d, r⟩
theorem Ext.cell {base h h' : Heap} {a : Addr} {v : Option Value} (x : Ext base h h') (l : h.IsCell a v) : h'.IsCell a v := by
  obtain ⟨o, e, d⟩ := l
  obtain ⟨o', e', _, d', _⟩ := x a o e
  exact ⟨o', e', d'.trans d⟩
theorem Ext.none {base h h' : Heap} {b : Addr} (x : Ext base h h') (e : h'.get? b = none) : h.get? b = none := by
  cases q : h.get? b with
  | none => rfl
  | some o => obtain ⟨o', e', _⟩ := x b o q; rw [e'] at e; cases e
mutual
theorem Rep.ext {ok ok' : Addr → Prop} {base h h' : Heap} (x : Ext base h h') (k : ∀ a, ok a → (h.get? a).isSome = true → ok' a) : ∀ {v : Value} {d : D}, Rep ok h v d → Rep ok' h' v d
  | _, _, .none => .none
  | _, _, .bool b => .bool b
  | _, _, .int i t => .int i t
  | _, _, .str y t => .str y t
  | _, _, .bytes b t => .bytes b t
  | _, _, .raw v => .raw v
  | _, _, .tuple o l r => .tuple (k _ o (by obtain ⟨_, e, _⟩ := l; rw [e]; rfl)) (x.tup l) (RepAll.ext x k r)
  | _, _, .list o l r => .list (k _ o (by obtain ⟨_, e, _⟩ := l; rw [e]; rfl)) (x.list l) (RepAll.ext x k r)
  | _, _, .slice o e c d p q r => .slice (k _ o (by rw [e]; rfl)) (by
      obtain ⟨o', e', c', d', k'⟩ := x _ _ e
      rw [k' (.inr (by rw [d]; rfl))] at e'; exact e') c d (Rep.ext x k p) (Rep.ext x k q) (Rep.ext x k r)
  | _, _, .rng o e => .rng (k _ o (by unfold IsRange at e; rw [e]; rfl)) (by
      unfold IsRange at e ⊢
      obtain ⟨o', e', c', d', k'⟩ := x _ _ e
      rw [k' (.inr rfl)] at e'; exact e')
theorem RepAll.ext {ok ok' : Addr → Prop} {base h h' : Heap} (x : Ext base h h') (k : ∀ a, ok a → (h.get? a).isSome = true → ok' a) : ∀ {vs : List Value} {ds : List D}, RepAll ok h vs ds → RepAll ok' h' vs ds
  | _, _, .nil => .nil
  | _, _, .cons a r => .cons (Rep.ext x k a) (RepAll.ext x k r)
end
/-- an object that may stand in a tree -/
inductive IsNode (h : Heap) (a : Addr) : Prop
  | list {vs : Array Value} : h.IsList a vs → IsNode h a
  | tup {vs : Array Value} : IsTup h a vs → IsNode h a
  | slice {o : Obj} {v1 v2 v3 : Value} : h.get? a = some o → o.cls = .type "slice" → o.data = .fields #[v1, v2, v3] → IsNode h a
  | rng {lo hi : Int} {t1 t2 t3 : Tok} : IsRange h a lo hi 1 t1 t2 t3 → IsNode h a
/-- all but the objects W stands -/
def ExtBut (base : Heap) (W : Addr → Prop) (h h' : Heap) : Prop := ∀ b o, ¬ W b → h.get? b = some o → ∃ o', h'.get? b = some o' ∧ o'.cls = o.cls ∧ o'.data = o.data ∧ ((base.get? b).isSome = true ∨ isDict o.data = false → o' = o)
mutual
theorem Rep.extBut {ok ok' : Addr → Prop} {base h h' : Heap} {W : Addr → Prop} (x : ExtBut base W h h') (n : ∀ a, ok a → IsNode h a → ¬ W a) (k : ∀ a, ok a → (h.get? a).isSome = true → ok' a) : ∀ {v : Value} {d : D}, Rep ok h v d → Rep ok' h' v d
  | _, _, .none => .none
  | _, _, .bool b => .bool b
  | _, _, .int i t => .int i t
  | _, _, .str y t => .str y t
  | _, _, .bytes b t => .bytes b t
  | _, _, .raw v => .raw v
  | _, _, .tuple o l r => .tuple (k _ o (by obtain ⟨_, e, _⟩ := l; rw [e]; rfl)) (by
      have q := n _ o (.tup l)
      obtain ⟨o₁, e, c, m, d⟩ := l
      obtain ⟨o', e', c', d', _⟩ := x _ o₁ q e
      exact ⟨o', e', c'.trans c, m, d'.trans d⟩) (RepAll.extBut x n k r)
  | _, _, .list o l r => .list (k _ o (by obtain ⟨_, e, _⟩ := l; rw [e]; rfl)) (by
      have q := n _ o (.list l)
      obtain ⟨o₁, e, c, m, d⟩ := l
      obtain ⟨o', e', c', d', _⟩ := x _ o₁ q e
      exact ⟨o', e', c'.trans c, m, d'.trans d⟩) (RepAll.extBut x n k r)
  | _, _, .slice o e c d p q r => .slice (k _ o (by rw [e]; rfl)) (by
      obtain ⟨o', e', c', d', k'⟩ := x _ _ (n _ o (.slice e c d)) e
      rw [k' (.inr (by rw [d]; rfl))] at e'; exact e') c d (Rep.extBut x n k p) (Rep.extBut x n k q) (Rep.extBut x n k r)
  | _, _, .rng o e => .rng (k _ o (by unfold IsRange at e; rw [e]; rfl)) (by
      unfold IsRange at e ⊢
      obtain ⟨o', e', c', d', k'⟩ := x _ _ (n _ o (.rng e)) e
      rw [k' (.inr rfl)] at e'; exact e')
theorem RepAll.extBut {ok ok' : Addr → Prop} {base h h' : Heap} {W : Addr → Prop} (x : ExtBut base W h h') (n : ∀ a, ok a → IsNode h a → ¬ W a) (k : ∀ a, ok a → (h.get? a).isSome = true → ok' a) : ∀ {vs : List Value} {ds : List D}, RepAll ok h vs ds → RepAll ok' h' vs ds
  | _, _, .nil => .nil
  | _, _, .cons a r => .cons (Rep.extBut x n k a) (RepAll.extBut x n k r)
end
theorem RepAll.length {ok : Addr → Prop} {h : Heap} {vs : List Value} {ds : List D} (r : RepAll ok h vs ds) : vs.length = ds.length := by
  induction vs generalizing ds with
  | nil => cases r; rfl
  | cons v vs ih => cases r with | cons _ r => rw [List.length_cons, List.length_cons, ih r]
theorem RepAll.append {ok : Addr → Prop} {h : Heap} {vs ws : List Value} {ds es : List D} (r : RepAll ok h vs ds) (k : RepAll ok h ws es) : RepAll ok h (vs ++ ws) (ds ++ es) := by
  induction vs generalizing ds with
  | nil => cases r; exact k
  | cons v vs ih => cases r with | cons a r => exact .cons a (ih r)
theorem RepAll.get {ok : Addr → Prop} {h : Heap} {vs : List Value} {ds : List D} (r : RepAll ok h vs ds) {k : Nat} {d : D} (hk : ds[k]? = some d) : ∃ v, vs[k]? = some v ∧ Rep ok h v d := by
  induction vs generalizing ds k with
  | nil => cases r; cases hk
  | cons v vs ih =>
    cases r with
    | cons a r =>
      cases k with
      | zero => cases hk; exact ⟨v, rfl, a⟩
      | succ k => exact ih r hk
end Mine
end
section
open PySem PySem.W PyProof.Rows
set_option maxRecDepth 100000
namespace Mine
/-- the ground: what stands behind the top -/
structure Gr where
  prog : Program
  w : World
  base : Heap
  mg : Str → Option Value
  mb : Str → Option Value
  g : base.Ns mainGlobals mg
  b : base.Ns builtinsNs mb
  bb : ∀ x : Str, x ≠ "__name__" → mb x = bootBuiltins x
  nolimit : base.NoLimit
abbrev Gr.M (G : Gr) : Model := model G.prog G.w
/-- room for n more calls -/
structure Room (n : Nat) (A : Around) : Prop where
  handled : A.handled = none
  depth : A.depth + n < recursionLimit
  units : A.units + 30 * n + 500 < cLine
theorem Room.deeper {n : Nat} {A : Around} {env : Env} (r : Room (n + 1) A) : Room n (A.deeper env) := ⟨r.handled, by have := r.depth; show A.depth + 1 + n < _; omega, by have := r.units; show A.units + 3 + 30 * n + 500 < _; omega⟩
/-- old generators stay as they are -/
structure GensKeep (g g' : Array GenState) : Prop where
  keep : ∀ (i : Nat) (x : GenState), g[i]? = some x → g'[i]? = some x
  bare : (∀ x ∈ g, x.bare = true) → ∀ x ∈ g', x.bare = true
theorem GensKeep.refl {g : Array GenState} : GensKeep g g := ⟨fun _ _ h => h, fun h => h⟩
theorem GensKeep.trans {a b c : Array GenState} (x : GensKeep a b) (y : GensKeep b c) : GensKeep a c := ⟨fun i z h => y.keep i z (x.keep i z h), fun h => y.bare (x.bare h)⟩
/-- a step that only adds -/
structure Stp (base : Heap) (s s' : Shared) : Prop where
  ext : Ext base s.heap s'.heap
  os : s'.os = s.os
  gens : GensKeep s.gens s'.gens
theorem Stp.refl {base : Heap} {s : Shared} : Stp base s s := ⟨.refl, rfl, .refl⟩
theorem Stp.trans {base : Heap} {a b c : Shared} (x : Stp base a b) (y : Stp base b c) : Stp base a c := ⟨x.ext.trans y.ext, y.os.trans x.os, x.gens.trans y.gens⟩
theorem Stp.heap {base : Heap} {s : Shared} {h' : Heap} {tk : Nat} (k : ∀ b o, s.heap.get? b = some o → h'.get? b = some o) : Stp base s { s with heap := h', toks := tk } := ⟨.of_stays k, rfl, .refl⟩
theorem Stp.tok {base : Heap} {s : Shared} {tk : Nat} : Stp base s { s with toks := tk } := ⟨.refl, rfl, .refl⟩
theorem Stp.push {base : Heap} {s : Shared} {o : Obj} {tk : Nat} : Stp base s { s with heap := s.heap.push o, toks := tk } := .heap fun _ _ e => Heap.get?_push_of_some _ e
def FreshOk (ok : Addr → Prop) (h : Heap) : Prop := ∀ b, h.get? b = none → ok b
theorem FreshOk.stp {ok : Addr → Prop} {base h h' : Heap} (f : FreshOk ok h) (x : Ext base h h') : FreshOk ok h' := fun b e => f b (x.none e)
theorem Rep.stp {ok : Addr → Prop} {base : Heap} {s s' : Shared} {v : Value} {d : D} (r : Rep ok s.heap v d) (x : Stp base s s') : Rep ok s'.heap v d := r.ext x.ext fun _ h _ => h
theorem RepAll.stp {ok : Addr → Prop} {base : Heap} {s s' : Shared} {vs : List Value} {ds : List D} (r : RepAll ok s.heap vs ds) (x : Stp base s s') : RepAll ok s'.heap vs ds := r.ext x.ext fun _ h _ => h
theorem Rep.weak {ok ok' : Addr → Prop} {h : Heap} {v : Value} {d : D} (r : Rep ok h v d) (k : ∀ a, ok a → ok' a) : Rep ok' h v d := r.ext (base := h) .refl fun a h _ => k a h
theorem RepAll.weak {ok ok' : Addr → Prop} {h : Heap} {vs : List Value} {ds : List D} (r : RepAll ok h vs ds) (k : ∀ a, ok a → ok' a) : RepAll ok' h vs ds := r.ext (base := h) .refl fun a h _ => k a h
inductive Slot where
  | val (d : D)
  | own (a : Addr) (ds : List D)
abbrev St := List (Str × Slot)
def owned : St → List Addr
  | [] => []
  | (_, .own a _) :: r => a :: owned r
  | (_, .val _) :: r => owned r
def setS (x : Str) (s : Slot) : St → St
  | [] => [(x, s)]
  | (y, t) :: r => if x = y then (x, s) :: r else (y, t) :: setS x s r
def okO (ok : Addr → Prop) (σ : St) (a : Addr) : Prop := ok a ∧ a ∉ owned σ
/-- where a name of the frame lies -/
def Holds (env : Env) (h : Heap) (x : Str) (v : Value) : Prop :=
  (env.kindOf x = some .local ∧ ∃ m, h.Ns env.locals m ∧ m x = some v) ∨
  ((env.kindOf x = some .cell ∨ env.kindOf x = some .free) ∧ ∃ c, env.cells.lookup x = some c ∧ h.IsCell c (some v))
theorem Holds.ext {base h h' : Heap} {env : Env} {x : Str} {v : Value} (e : Ext base h h') (q : Holds env h x v) : Holds env h' x v := by
  rcases q with ⟨k, m, n, r⟩ | ⟨k, c, l, r⟩
  · exact .inl ⟨k, m, e.ns n, r⟩
  · exact .inr ⟨k, c, l, e.cell r⟩
structure Frame (env : Env) (h : Heap) : Prop where
  kind : env.scope.kind = .function
  ns : ∃ m, h.Ns env.locals m
  cells : ∀ x c, env.cells.lookup x = some c → ∃ v, h.IsCell c v
  apart : env.cells.Pairwise fun x y => x.2 ≠ y.2
  away : ∀ x c, env.cells.lookup x = some c → c ≠ env.locals
  glob : env.globals = mainGlobals
  blt : env.builtins = builtinsNs
theorem Frame.ext {base h h' : Heap} {env : Env} (e : Ext base h h') (q : Frame env h) : Frame env h' :=
  ⟨q.kind, q.ns.imp fun _ n => e.ns n, fun x c l => (q.cells x c l).imp fun _ n => e.cell n, q.apart, q.away, q.glob, q.blt⟩
/-- the objects that a frame may write -/
def FrW (env : Env) (a : Addr) : Prop := a = env.locals ∨ ∃ x, env.cells.lookup x = some a
def Wr (env : Env) (σ : St) (a : Addr) : Prop := FrW env a ∨ a ∈ owned σ
/-- a list of the program's own making -/
def OwnL (h : Heap) (a : Addr) (vs : List Value) : Prop := ∃ n, h.get? a = some (listOf vs.toArray n)
theorem OwnL.list {h : Heap} {a : Addr} {vs : List Value} (l : OwnL h a vs) : h.IsList a vs.toArray := let ⟨n, e⟩ := l; ⟨_, e, rfl, n, rfl⟩
theorem OwnL.some {h : Heap} {a : Addr} {vs : List Value} (l : OwnL h a vs) : (h.get? a).isSome = true := by obtain ⟨n, e⟩ := l; rw [e]; rfl
theorem Ext.own {base h h' : Heap} {a : Addr} {vs : List Value} (x : Ext base h h') (l : OwnL h a vs) : OwnL h' a vs := by
  obtain ⟨n, e⟩ := l
  obtain ⟨o', e', _, _, k⟩ := x a _ e
  rw [k (.inr rfl)] at e'; exact ⟨n, e'⟩
theorem ExtBut.own {base h h' : Heap} {W : Addr → Prop} {a : Addr} {vs : List Value} (x : ExtBut base W h h') (w : ¬ W a) (l : OwnL h a vs) : OwnL h' a vs := by
  obtain ⟨n, e⟩ := l
  obtain ⟨o', e', _, _, k⟩ := x a _ w e
  rw [k (.inr rfl)] at e'; exact ⟨n, e'⟩
structure Inv (base : Heap) (ok : Addr → Prop) (env : Env) (σ : St) (h : Heap) : Prop where
  frame : Frame env h
  off : ∀ a, Wr env σ a → base.get? a = none
  fresh : FreshOk ok h
  vals : ∀ x d, σ.lookup x = some (.val d) → ∃ v, Holds env h x v ∧ Rep (okO ok σ) h v d
  owns : ∀ x a ds, σ.lookup x = some (.own a ds) → Holds env h x (.ref a) ∧ ok a ∧ ∃ vs, OwnL h a vs ∧ RepAll (okO ok σ) h vs ds
  there : ∀ a ∈ owned σ, ∃ vs, OwnL h a vs
  once : (owned σ).Nodup
theorem Inv.ext {ok : Addr → Prop} {base h h' : Heap} {env : Env} {σ : St} (e : Ext base h h') (i : Inv base ok env σ h) : Inv base ok env σ h' where
  frame := i.frame.ext e
  off := i.off
  fresh := i.fresh.stp e
  vals := fun x d l => let ⟨v, a, r⟩ := i.vals x d l; ⟨v, a.ext e, r.ext e fun _ h _ => h⟩
  owns := fun x a ds l => let ⟨p, q, vs, r, t⟩ := i.owns x a ds l; ⟨p.ext e, q, vs, e.own r, t.ext e fun _ h _ => h⟩
  there := fun a m => (i.there a m).imp fun _ r => e.own r
  once := i.once
theorem Inv.freshO {ok : Addr → Prop} {base h : Heap} {env : Env} {σ : St} (i : Inv base ok env σ h) : FreshOk (okO ok σ) h := fun b e => ⟨i.fresh b e, fun m => by
  obtain ⟨vs, k, q⟩ := i.there b m
  rw [e] at q; cases q⟩
section
variable (G : Gr) (n : Nat)
/-- an expression's value -/
def Ev (env : Env) (σ : St) (e : Expr) (d : D) : Prop := ∀ ok A s E, Room n A → G.base.StaysIn s.heap → Inv G.base ok env σ s.heap →
  wpAny G.M A (eval e env) (fun v s' => Stp G.base s s' ∧ Rep (okO ok σ) s'.heap v d) E s
/-- a test's answer -/
def Tr (env : Env) (σ : St) (e : Expr) (b : Bool) : Prop := ∀ ok A s E, Room n A → G.base.StaysIn s.heap → Inv G.base ok env σ s.heap →
  wpAny G.M A (isTrue e env (eval e env)) (fun r s' => Stp G.base s s' ∧ r = b) E s
def BinD (op : Operator) (da db d : D) : Prop := ∀ ok A s E va vb, Room n A → G.base.StaysIn s.heap → FreshOk ok s.heap → Rep ok s.heap va da → Rep ok s.heap vb db →
  wpAny G.M A (binaryOp op va vb) (fun v s' => Stp G.base s s' ∧ Rep ok s'.heap v d) E s
def CmpD (op : CmpOp) (da db : D) (b : Bool) : Prop := ∀ ok A s E va vb, Room n A → G.base.StaysIn s.heap → FreshOk ok s.heap → Rep ok s.heap va da → Rep ok s.heap vb db →
  wpAny G.M A (compareOp op va vb) (fun v s' => Stp G.base s s' ∧ v = .bool b) E s
def CallD (f : Value) (ds : List D) (d : D) : Prop := ∀ ok A s E vs, Room n A → G.base.StaysIn s.heap → FreshOk ok s.heap → RepAll ok s.heap vs ds →
  wpAny G.M A (call f vs) (fun v s' => Stp G.base s s' ∧ Rep ok s'.heap v d) E s
def IdxD (do_ di d : D) : Prop := ∀ ok A s E vo vi, Room n A → G.base.StaysIn s.heap → FreshOk ok s.heap → Rep ok s.heap vo do_ → Rep ok s.heap vi di →
  wpAny G.M A (getItem vo vi) (fun v s' => Stp G.base s s' ∧ Rep ok s'.heap v d) E s
/-- the call of a method comes to this callee with the object first -/
def MethD (d : D) (name : Str) (f : Value) : Prop := ∀ ok A s E v pl, Room n A → G.base.StaysIn s.heap → FreshOk ok s.heap → Rep ok s.heap v d →
  wpAny G.M A (getMethod v name pl) (fun r s' => Stp G.base s s' ∧ r = (f, [v])) E s
end
end Mine
end
section
open PySem PySem.W PyProof.Rows PySem.Calls
set_option maxRecDepth 100000
namespace Mine
section
variable {G : Gr} {n : Nat} {env : Env} {σ : St}
/-- borrowed: the value may be a list that the frame still fills -/
def EvB (G : Gr) (n : Nat) (env : Env) (σ : St) (e : Expr) (d : D) : Prop := ∀ ok A s E, Room n A → G.base.StaysIn s.heap → Inv G.base ok env σ s.heap →
  wpAny G.M A (eval e env) (fun v s' => Stp G.base s s' ∧ Rep ok s'.heap v d) E s
theorem Ev.b {e : Expr} {d : D} (h : Ev G n env σ e d) : EvB G n env σ e d := fun ok A s E r k i =>
  wpAny_mono (h ok A s E r k i) (fun _ _ p => ⟨p.1, p.2.weak fun _ q => q.1⟩) fun _ _ x => x
theorem Ev.cast {e : Expr} {d d' : D} (h : Ev G n env σ e d) (q : d = d') : Ev G n env σ e d' := q ▸ h
def Atomic : D → Bool
  | .none | .bool _ | .int _ | .str _ | .bytes _ | .raw _ => true
  | _ => false
theorem Rep.atomic {ok ok' : Addr → Prop} {h h' : Heap} {v : Value} {d : D} (r : Rep ok h v d) (a : Atomic d = true) : Rep ok' h' v d := by
  cases r <;> first | (cases a; done) | constructor
theorem Ev.int {i : Int} {k : Nat} {p : Pos} : Ev G n env σ (.Constant (.int i) k p) (.int i) := fun _ _ _ _ _ _ _ => wpAny_Constant_int ⟨.tok, .int _ _⟩
theorem Ev.str {x : Str} {k : Nat} {p : Pos} : Ev G n env σ (.Constant (.str x) k p) (.str x) := fun _ _ _ _ _ _ _ => Constant_str ⟨.tok, .str _ _⟩
theorem Ev.bool {b : Bool} {k : Nat} {p : Pos} : Ev G n env σ (.Constant (.bool b) k p) (.bool b) := fun _ _ _ _ _ _ _ => Constant_bool ⟨.refl, .bool _⟩
theorem wpAny_holds {A : Around} {E : Value → Shared → Prop} {s : Shared} {x : Str} {p : Pos} {v : Value} {Q : Value → Shared → Prop} {M : Model} (hk : env.scope.kind = .function) (q : Holds env s.heap x v) (h : Q v s)
    (hd : (x == ("__debug__" : Str)) = false) (hc : (x == ("__classdict__" : Str)) = false) : wpAny M A (eval (.Name x p) env) Q E s := by
  refine wpAny_Name ?_ hd
  rcases q with ⟨k, m, hn, hv⟩ | ⟨k | k, c, hl, hv⟩
  · exact wpAny_loadName_local hk k hn hv h
  · exact wpAny_loadName_cell hk k hl hv h
  · exact wpAny_loadName_free hk k hl hv h hc
theorem Ev.name {x : Str} {p : Pos} {d : D} (hl : σ.lookup x = some (.val d)) (hd : (x == ("__debug__" : Str)) = false := by decide) (hc : (x == ("__classdict__" : Str)) = false := by decide) :
    Ev G n env σ (.Name x p) d := fun _ _ _ _ _ _ i => by
  obtain ⟨v, q, r⟩ := i.vals x d hl
  exact wpAny_holds i.frame.kind q ⟨.refl, r⟩ hd hc
theorem EvB.own {x : Str} {p : Pos} {a : Addr} {ds : List D} (hl : σ.lookup x = some (.own a ds)) (hd : (x == ("__debug__" : Str)) = false := by decide) (hc : (x == ("__classdict__" : Str)) = false := by decide) :
    EvB G n env σ (.Name x p) (.list ds) := fun _ _ _ _ _ _ i => by
  obtain ⟨q, o, vs, l, r⟩ := i.owns x a ds hl
  exact wpAny_holds i.frame.kind q ⟨.refl, .list o l.list (r.weak fun _ q => q.1)⟩ hd hc
theorem Ev.global {x : Str} {p : Pos} {v : Value} {d : D} (hk : env.kindOf x = some .globalImplicit) (hv : G.mg x = some v) (hr : ∀ ok h, Rep ok h v d) (hd : (x == ("__debug__" : Str)) = false := by decide) :
    Ev G n env σ (.Name x p) d := fun _ _ _ _ _ k i =>
  Name_function_global i.frame.kind hk (loadGlobal_global (by rw [i.frame.glob]; exact G.g.keeps k) hv ⟨.refl, hr _ _⟩) hd
theorem Ev.builtin {x : Str} {p : Pos} {v : Value} (hk : env.kindOf x = some .globalImplicit) (hg : G.mg x = .none) (hv : bootBuiltins x = some v) (hn : x ≠ "__name__" := by decide) (hd : (x == ("__debug__" : Str)) = false := by decide) :
    Ev G n env σ (.Name x p) (.raw v) := fun _ _ _ _ _ k i =>
  Name_function_global i.frame.kind hk (loadGlobal_builtin (by rw [i.frame.glob]; exact G.g.keeps k) hg (by rw [i.frame.blt]; exact G.b.keeps k) ((G.bb x hn).trans hv) ⟨.refl, .raw _⟩) hd
theorem Ev.binop {a b : Expr} {op : Operator} {p : Pos} {da db d : D} (ha : Ev G n env σ a da) (hb : Ev G n env σ b db) (ho : BinD G n op da db d) : Ev G n env σ (.BinOp a op b p) d := fun ok A s E r k i =>
  wpAny_BinOp (wpAny_mono (ha ok A s E r k i) (fun va s₁ p₁ => wpAny_mono (hb ok A s₁ E r (p₁.1.ext.base k) (i.ext p₁.1.ext)) (fun vb s₂ p₂ =>
    have st := p₁.1.trans p₂.1
    wpAny_mono (ho _ A s₂ E va vb r (st.ext.base k) (i.ext st.ext).freshO (p₁.2.stp p₂.1) p₂.2) (fun _ _ p₃ => ⟨st.trans p₃.1, p₃.2⟩) fun _ _ x => x) fun _ _ x => x) fun _ _ x => x)
theorem Tr.cmp {a b : Expr} {op : CmpOp} {p : Pos} {da db : D} {c : Bool} (ha : EvB G n env σ a da) (hb : EvB G n env σ b db) (ho : CmpD G n op da db c) (hm : behindInMarks op b = false := by with_unfolding_all rfl) :
    Tr G n env σ (.Compare a [op] [b] p) c := fun ok A s E r k i =>
  wpAny_isTrue_Compare1 (wpAny_mono (ha ok A s E r k i) (fun va s₁ p₁ => wpAny_mono (hb ok A s₁ E r (p₁.1.ext.base k) (i.ext p₁.1.ext)) (fun vb s₂ p₂ =>
    have st := p₁.1.trans p₂.1
    wpAny_mono (ho _ A s₂ E va vb r (st.ext.base k) (i.ext st.ext).fresh (p₁.2.stp p₂.1) p₂.2) (fun _ _ p₃ => by rw [p₃.2]; exact wpAny_truthy_bool ⟨st.trans p₃.1, rfl⟩) fun _ _ x => x) fun _ _ x => x) fun _ _ x => x) hm
theorem Tr.cast {e : Expr} {c c' : Bool} (h : Tr G n env σ e c) (q : c = c') : Tr G n env σ e c' := q ▸ h
/-- a row of arguments or items -/
def EvL (G : Gr) (n : Nat) (env : Env) (σ : St) (es : List Expr) (ds : List D) : Prop := ∀ ok A s E p, Room n A → G.base.StaysIn s.heap → Inv G.base ok env σ s.heap →
  wpAny G.M A (spliced (backTo p (starEach es env))) (fun vs s' => Stp G.base s s' ∧ RepAll (okO ok σ) s'.heap vs ds) E s
def EvLB (G : Gr) (n : Nat) (env : Env) (σ : St) (es : List Expr) (ds : List D) : Prop := ∀ ok A s E p, Room n A → G.base.StaysIn s.heap → Inv G.base ok env σ s.heap →
  wpAny G.M A (spliced (backTo p (starEach es env))) (fun vs s' => Stp G.base s s' ∧ RepAll ok s'.heap vs ds) E s
def noStar : List Expr → Bool
  | [] => true
  | .Starred .. :: _ => false
  | _ :: r => noStar r
theorem EvL.nil : EvL G n env σ [] [] := fun _ _ _ _ _ _ _ _ => args_nil ⟨.refl, .nil⟩
theorem EvL.cons {e : Expr} {es : List Expr} {d : D} {ds : List D} (h : Ev G n env σ e d) (hs : EvL G n env σ es ds) (he : starEach (e :: es) env = (false, eval e env) :: starEach es env := by rfl) : EvL G n env σ (e :: es) (d :: ds) := fun ok A s E p r k i =>
  args_cons (wpAny_mono (h ok A s E r k i) (fun v s₁ p₁ => wpAny_mono (hs ok A s₁ E p r (p₁.1.ext.base k) (i.ext p₁.1.ext)) (fun vs s₂ p₂ => ⟨p₁.1.trans p₂.1, .cons (p₁.2.stp p₂.1) p₂.2⟩) fun _ _ x => x) fun _ _ x => x) he
theorem EvLB.nil : EvLB G n env σ [] [] := fun _ _ _ _ _ _ _ _ => args_nil ⟨.refl, .nil⟩
theorem EvLB.cons {e : Expr} {es : List Expr} {d : D} {ds : List D} (h : EvB G n env σ e d) (hs : EvLB G n env σ es ds) (he : starEach (e :: es) env = (false, eval e env) :: starEach es env := by rfl) : EvLB G n env σ (e :: es) (d :: ds) := fun ok A s E p r k i =>
  args_cons (wpAny_mono (h ok A s E r k i) (fun v s₁ p₁ => wpAny_mono (hs ok A s₁ E p r (p₁.1.ext.base k) (i.ext p₁.1.ext)) (fun vs s₂ p₂ => ⟨p₁.1.trans p₂.1, .cons (p₁.2.stp p₂.1) p₂.2⟩) fun _ _ x => x) fun _ _ x => x) he
/-- what may stand at a call's head -/
inductive Callee (G : Gr) : Value → Prop
  | builtin (id : String) : Callee G (.builtin id)
  | type (T : String) : Callee G (.type T)
  | fn {a : Addr} {o : Obj} {fd : FuncData} : G.base.get? a = some o → o.data = .func fd → Callee G (.ref a)
theorem callWith_callee {M : Model} {A : Around} {E : Value → Shared → Prop} {s : Shared} {pos : Pos} {f : Value} {first : List Value} {es : List Expr} {Q : Value → Shared → Prop} (c : Callee G f)
    (hplain : (backTo pos (starEach es env)).any (·.1) = false)
    (h : wpAny M A (spliced (backTo pos (starEach es env))) (fun vs s₁ => G.base.StaysIn s₁.heap ∧ wpAny M A (call f (first ++ vs)) Q E s₁) E s) (hns : noStar es = true) :
    wpAny M A (callWith pos f first (backTo pos (starEach es env)) []) Q E s := by
  have hargs : ∀ {Q' : Args → Shared → Prop}, wpAny M A (spliced (backTo pos (starEach es env))) (fun vs s₁ => Q' ⟨vs, []⟩ s₁) E s → wpAny M A (evalArgs f true (backTo pos (starEach es env)) []) Q' E s := by
    intro Q' hq
    cases es with
    | nil =>
      have e1 : evalArgs f true (backTo pos (starEach [] env)) [] = (pure ⟨[], []⟩ : Sem Args) := rfl
      rw [e1]
      exact fun Γ p hΓ => hq Γ p hΓ
    | cons e r =>
      have he : starEach (e :: r) env = (false, eval e env) :: starEach r env := by
        cases e <;> first | rfl | cases hns
      rw [he] at hq ⊢
      exact evalArgs_plain hq
  cases c with
  | builtin id => exact callWith_builtin hplain (hargs (wpAny_mono h (fun vs s₁ p => p.2) fun _ _ x => x))
  | type T => exact PyProof.Rows.callWith_type hplain (hargs (wpAny_mono h (fun vs s₁ p => p.2) fun _ _ x => x))
  | fn ho hd => exact callWith_function (hargs (wpAny_mono h (fun vs s₁ p => ⟨⟨p.1 _ _ ho, hd⟩, p.2⟩) fun _ _ x => x))
theorem Ev.call {x : Str} {p pos : Pos} {es : List Expr} {f : Value} {ds : List D} {d : D} (hf : Ev G n env σ (.Name x p) (.raw f)) (c : Callee G f) (ha : EvL G n env σ es ds) (hc : CallD G n f ds d)
    (hns : noStar es = true := by rfl) (hplain : (backTo pos (starEach es env)).any (·.1) = false := by rfl) : Ev G n env σ (.Call (.Name x p) es [] pos) d := fun ok A s E r k i =>
  Call_ (wpAny_mono (hf ok A s E r k i) (fun v s₁ p₁ => by
    obtain ⟨st, rp⟩ := p₁
    cases rp
    refine callWith_callee c hplain (wpAny_mono (ha ok A s₁ E pos r (st.ext.base k) (i.ext st.ext)) (fun vs s₂ p₂ => ⟨p₂.1.ext.base (st.ext.base k), ?_⟩) fun _ _ x => x) hns
    have st' := st.trans p₂.1
    exact wpAny_mono (hc _ A s₂ E vs r (st'.ext.base k) (i.ext st'.ext).freshO p₂.2) (fun _ _ p₃ => ⟨st'.trans p₃.1, p₃.2⟩) fun _ _ x => x) fun _ _ x => x)
theorem Ev.callB {x : Str} {p pos : Pos} {es : List Expr} {f : Value} {ds : List D} {d : D} (hf : Ev G n env σ (.Name x p) (.raw f)) (c : Callee G f) (ha : EvLB G n env σ es ds) (hc : CallD G n f ds d) (hat : Atomic d = true)
    (hns : noStar es = true := by rfl) (hplain : (backTo pos (starEach es env)).any (·.1) = false := by rfl) : Ev G n env σ (.Call (.Name x p) es [] pos) d := fun ok A s E r k i =>
  Call_ (wpAny_mono (hf ok A s E r k i) (fun v s₁ p₁ => by
    obtain ⟨st, rp⟩ := p₁
    cases rp
    refine callWith_callee c hplain (wpAny_mono (ha ok A s₁ E pos r (st.ext.base k) (i.ext st.ext)) (fun vs s₂ p₂ => ⟨p₂.1.ext.base (st.ext.base k), ?_⟩) fun _ _ x => x) hns
    have st' := st.trans p₂.1
    exact wpAny_mono (hc _ A s₂ E vs r (st'.ext.base k) (i.ext st'.ext).fresh p₂.2) (fun _ _ p₃ => ⟨st'.trans p₃.1, p₃.2.atomic hat⟩) fun _ _ x => x) fun _ _ x => x)
theorem Ev.meth {o : Expr} {name : Str} {apos pos : Pos} {es : List Expr} {f : Value} {dv : D} {ds : List D} {d : D} (ho : Ev G n env σ o dv) (hm : MethD G n dv name f) (c : Callee G f) (ha : EvL G n env σ es ds) (hc : CallD G n f (dv :: ds) d)
    (hns : noStar es = true := by rfl) (hplain : (backTo pos (starEach es env)).any (·.1) = false := by rfl)
    {pl : Sem Bool} (he : eval (.Call (.Attribute o name apos) es [] pos) env = (do
      let ov ← eval o env
      standAt apos.atName
      let (f, first) ← holding [ov] (getMethod ov name pl)
      callWith pos f first (backTo pos (starEach es env)) []) := by rfl) : Ev G n env σ (.Call (.Attribute o name apos) es [] pos) d := fun ok A s E r k i =>
  MethodCall_ (pl := pl) (wpAny_mono (ho ok A s E r k i) (fun v s₁ p₁ => wpAny_mono (hm _ A s₁ E v _ r (p₁.1.ext.base k) (i.ext p₁.1.ext).freshO p₁.2) (fun fx s₂ p₂ => by
    obtain ⟨st₂, rfl⟩ := p₂
    have st' := p₁.1.trans st₂
    refine callWith_callee c hplain (wpAny_mono (ha ok A s₂ E pos r (st'.ext.base k) (i.ext st'.ext)) (fun vs s₃ p₃ => ⟨p₃.1.ext.base (st'.ext.base k), ?_⟩) fun _ _ x => x) hns
    have st'' := st'.trans p₃.1
    exact wpAny_mono (hc _ A s₃ E _ r (st''.ext.base k) (i.ext st''.ext).freshO (.cons ((p₁.2.stp st₂).stp p₃.1) p₃.2)) (fun _ _ p₄ => ⟨st''.trans p₄.1, p₄.2⟩) fun _ _ x => x) fun _ _ x => x) fun _ _ x => x) he
theorem Ev.sub {o i : Expr} {p : Pos} {do_ di d : D} {T id : String} (ho : Ev G n env σ o do_) (hi : Ev G n env σ i di) (hx : IdxD G n do_ di d)
    (hT : ∀ ok (s : Shared) v, Rep ok s.heap v do_ → s.TypeIs v T) (hl : typeLookup (.type T) "__getitem__" = pure (some (.builtin id)))
    (hs : ∀ a b, ∃ ops, subscripted i false a b = operate ops (getItem a b) := by intro a b; first | exact ⟨[a, b], rfl⟩ | exact ⟨[b, a], rfl⟩) : Ev G n env σ (.Subscript o i p) d := fun ok A s E r k iv =>
  Subscript_ (wpAny_mono (ho ok A s E r k iv) (fun vo s₁ p₁ => wpAny_mono (hi ok A s₁ E r (p₁.1.ext.base k) (iv.ext p₁.1.ext)) (fun vi s₂ p₂ => by
    have st := p₁.1.trans p₂.1
    obtain ⟨ops, hs⟩ := hs vo vi
    exact tail_any (hT _ _ _ (p₁.2.stp p₂.1)) hl (wpAny_mono (hx _ A s₂ E vo vi r (st.ext.base k) (iv.ext st.ext).freshO (p₁.2.stp p₂.1) p₂.2) (fun _ _ p₃ => ⟨st.trans p₃.1, p₃.2⟩) fun _ _ x => x) hs) fun _ _ x => x) fun _ _ x => x)
theorem fresh_get {h : Heap} : h.get? h.objs.size = .none := by
  cases q : h.get? h.objs.size with
  | none => rfl
  | some o => exact absurd (Heap.lt_size q) (Nat.lt_irrefl _)
theorem Ev.list {es : List Expr} {p : Pos} {ds : List D} (h : EvL G n env σ es ds) (hz : ds.length ≤ sizeLine) : Ev G n env σ (.List es p) (.list ds) := fun ok A s E r k i =>
  List_ (wpAny_mono (h ok A s E p r k i) (fun vs s₁ p₁ => by
    refine wpAny_newObj_type ?_ (by show vs.toArray.size ≤ sizeLine; rw [List.size_toArray, p₁.2.length]; exact hz)
    have st : Stp G.base s₁ { s₁ with heap := s₁.heap.push { cls := .type "list", data := .seq vs.toArray } } := .push
    exact ⟨p₁.1.trans st, .list ((i.ext p₁.1.ext).freshO _ fresh_get) ⟨_, Heap.get?_push_size _ rfl, rfl, _, rfl⟩ (p₁.2.stp st)⟩) fun _ _ x => x)
theorem Ev.tuple {es : List Expr} {p : Pos} {k : Nat} {ds : List D} (h : EvL G n env σ es ds) (hz : ds.length ≤ sizeLine) : Ev G n env σ (.Tuple es k p) (.tuple ds) := fun ok A s E r k i =>
  Tuple_ (wpAny_mono (h ok A s E p r k i) (fun vs s₁ p₁ => by
    refine wpAny_newObj_type ?_ (by show vs.toArray.size ≤ sizeLine; rw [List.size_toArray, p₁.2.length]; exact hz)
    have st : Stp G.base s₁ { s₁ with heap := s₁.heap.push { cls := .type "tuple", data := .seq vs.toArray } } := .push
    exact ⟨p₁.1.trans st, .tuple ((i.ext p₁.1.ext).freshO _ fresh_get) ⟨_, Heap.get?_push_size _ rfl, rfl, _, rfl⟩ (p₁.2.stp st)⟩) fun _ _ x => x)
/-- a part of a slice -/
def EvO (G : Gr) (n : Nat) (env : Env) (σ : St) (e : Option Expr) (d : D) : Prop := ∀ ok A s E, Room n A → G.base.StaysIn s.heap → Inv G.base ok env σ s.heap →
  wpAny G.M A (evalPart e env) (fun v s' => Stp G.base s s' ∧ Rep (okO ok σ) s'.heap v d) E s
theorem EvO.none : EvO G n env σ .none .none := fun _ _ _ _ _ _ _ => wpAny_pure ⟨.refl, .none⟩
theorem EvO.some {e : Expr} {d : D} (h : Ev G n env σ e d) : EvO G n env σ (.some e) d := h
theorem Ev.slice {l u st : Option Expr} {p : Pos} {dl du ds : D} (hl : EvO G n env σ l dl) (hu : EvO G n env σ u du) (hs : EvO G n env σ st ds) : Ev G n env σ (.Slice l u st p) (.slice dl du ds) := fun ok A s E r k i =>
  wpAny_Slice (wpAny_mono (hl ok A s E r k i) (fun v1 s₁ p₁ => wpAny_mono (hu ok A s₁ E r (p₁.1.ext.base k) (i.ext p₁.1.ext)) (fun v2 s₂ p₂ => by
    have st := p₁.1.trans p₂.1
    refine wpAny_mono (hs ok A s₂ E r (st.ext.base k) (i.ext st.ext)) (fun v3 s₃ p₃ => ?_) fun _ _ x => x
    have st' := st.trans p₃.1
    have sp : Stp G.base s₃ { s₃ with heap := s₃.heap.push { cls := .type "slice", data := .fields #[v1, v2, v3] } } := .push
    exact ⟨st'.trans sp, .slice ((i.ext st'.ext).freshO _ fresh_get) (Heap.get?_push_size _ rfl) rfl rfl (((p₁.2.stp p₂.1).stp p₃.1).stp sp) ((p₂.2.stp p₃.1).stp sp) (p₃.2.stp sp)⟩) fun _ _ x => x) fun _ _ x => x)
end
end Mine
end
section
open PySem PySem.W PyProof.Rows PySem.Calls
set_option maxRecDepth 100000
namespace Mine
theorem lookup_setS_self {x : Str} {s : Slot} : ∀ σ : St, (setS x s σ).lookup x = some s
  | [] => by simp [setS]
  | (y, t) :: r => by
    unfold setS
    by_cases e : x = y
    · rw [if_pos e]; simp
    · rw [if_neg e, List.lookup_cons, beq_eq_false_iff_ne.mpr e]; exact lookup_setS_self r
theorem lookup_setS_ne {x y : Str} {s : Slot} (n : y ≠ x) : ∀ σ : St, (setS x s σ).lookup y = σ.lookup y
  | [] => by simp [setS, n]
  | (z, t) :: r => by
    unfold setS
    by_cases e : x = z
    · subst e; rw [if_pos rfl, List.lookup_cons, List.lookup_cons, beq_eq_false_iff_ne.mpr n]
    · rw [if_neg e, List.lookup_cons, List.lookup_cons]
      cases y == z <;> simp [lookup_setS_ne n r]
theorem owned_of_lookup {x : Str} {a : Addr} {ds : List D} : ∀ {σ : St}, σ.lookup x = some (.own a ds) → a ∈ owned σ
  | (y, t) :: r, h => by
    rw [List.lookup_cons] at h
    cases e : x == y with
    | true => rw [e] at h; cases h; exact List.mem_cons_self
    | false =>
      rw [e] at h
      have := owned_of_lookup h
      cases t with
      | val d => exact this
      | own b es => exact List.mem_cons_of_mem _ this
def slotAddr : Slot → List Addr
  | .val _ => []
  | .own a _ => [a]
theorem owned_cons (x : Str) (s : Slot) (r : St) : owned ((x, s) :: r) = slotAddr s ++ owned r := by cases s <;> rfl
/-- what setS does to the owned ones -/
theorem owned_setS (x : Str) (s : Slot) : ∀ σ : St, ∃ l₁ l₂ l₃, owned σ = l₁ ++ l₂ ++ l₃ ∧ owned (setS x s σ) = l₁ ++ slotAddr s ++ l₃ ∧ (∀ t, σ.lookup x = some t → l₂ = slotAddr t)
  | [] => ⟨[], [], [], rfl, by cases s <;> rfl, fun t h => by cases h⟩
  | (y, t) :: r => by
    unfold setS
    by_cases e : x = y
    · subst e
      rw [if_pos rfl, owned_cons, owned_cons]
      exact ⟨[], slotAddr t, owned r, by simp, by simp, fun t' h => by simp at h; rw [h]⟩
    · rw [if_neg e, owned_cons, owned_cons]
      obtain ⟨l₁, l₂, l₃, h1, h2, h3⟩ := owned_setS x s r
      refine ⟨slotAddr t ++ l₁, l₂, l₃, by rw [h1]; simp, by rw [h2]; simp, fun t' h => h3 t' ?_⟩
      rw [List.lookup_cons, beq_eq_false_iff_ne.mpr e] at h; exact h
theorem owned_setS_sub {x : Str} {s : Slot} {σ : St} {a : Addr} (h : a ∈ owned (setS x s σ)) : a ∈ owned σ ∨ a ∈ slotAddr s := by
  obtain ⟨l₁, l₂, l₃, h1, h2, _⟩ := owned_setS x s σ
  rw [h2] at h; rw [h1]
  simp only [List.mem_append] at h ⊢
  rcases h with (h | h) | h <;> simp [h]
theorem owned_setS_val {x : Str} {d : D} {σ : St} {a : Addr} (h : a ∈ owned (setS x (.val d) σ)) : a ∈ owned σ := (owned_setS_sub h).elim id fun h => nomatch h
theorem nodup_setS_val {x : Str} {d : D} {σ : St} (h : (owned σ).Nodup) : (owned (setS x (.val d) σ)).Nodup := by
  obtain ⟨l₁, l₂, l₃, h1, h2, _⟩ := owned_setS x (.val d) σ
  rw [h1] at h; rw [h2]
  exact h.sublist (by simp [slotAddr, List.append_assoc])
theorem nodup_setS_own {x : Str} {a : Addr} {ds : List D} {σ : St} (h : (owned σ).Nodup) (n : a ∉ owned σ ∨ ∃ es, σ.lookup x = some (.own a es)) : (owned (setS x (.own a ds) σ)).Nodup := by
  obtain ⟨l₁, l₂, l₃, h1, h2, h3⟩ := owned_setS x (.own a ds) σ
  rw [h2]
  rcases n with n | ⟨es, n⟩
  · rw [h1] at h n
    simp only [slotAddr]
    have h' : (l₁ ++ l₃).Nodup := h.sublist (by simp [List.append_assoc])
    simp only [List.mem_append, not_or] at n
    rw [List.append_assoc]
    rw [List.nodup_append] at h' ⊢
    refine ⟨h'.1, ?_, ?_⟩
    · rw [List.singleton_append, List.nodup_cons]; exact ⟨n.2, h'.2.1⟩
    · intro p hp q hq e
      rw [List.singleton_append, List.mem_cons] at hq
      rcases hq with rfl | hq
      · exact n.1.1 (e ▸ hp)
      · exact h'.2.2 p hp q hq e
  · rw [h1, h3 _ n] at h; exact h
/-- the address goes out of the owned ones -/
theorem notMem_setS_val {x : Str} {a : Addr} {ds : List D} {d : D} {σ : St} (h : (owned σ).Nodup) (l : σ.lookup x = some (.own a ds)) : a ∉ owned (setS x (.val d) σ) := by
  obtain ⟨l₁, l₂, l₃, h1, h2, h3⟩ := owned_setS x (.val d) σ
  rw [h2]; rw [h1, h3 _ l] at h
  simp only [slotAddr, List.append_assoc, List.append_nil] at h ⊢
  intro m
  rw [List.nodup_append] at h
  rcases List.mem_append.mp m with m | m
  · exact h.2.2 a m a (by simp) rfl
  · have := h.2.1; simp at this; exact this.1 m
theorem node_not_frame {env : Env} {h : Heap} {a : Addr} (F : Frame env h) (n : IsNode h a) : ¬ FrW env a := by
  rintro (e | ⟨x, l⟩)
  · obtain ⟨m, o, es, ep, q, d, _⟩ := F.ns
    rw [← e] at q
    cases n with
    | list l => obtain ⟨o', q', _, k, d'⟩ := l; rw [q] at q'; cases q'; rw [d] at d'; cases d'
    | tup l => obtain ⟨o', q', _, k, d'⟩ := l; rw [q] at q'; cases q'; rw [d] at d'; cases d'
    | slice q' _ d' => rw [q] at q'; cases q'; rw [d] at d'; cases d'
    | rng q' => unfold IsRange at q'; rw [q] at q'; cases q'; cases d
  · obtain ⟨v, o, q, d⟩ := F.cells x a l
    cases n with
    | list l => obtain ⟨o', q', _, k, d'⟩ := l; rw [q] at q'; cases q'; rw [d] at d'; cases d'
    | tup l => obtain ⟨o', q', _, k, d'⟩ := l; rw [q] at q'; cases q'; rw [d] at d'; cases d'
    | slice q' _ d' => rw [q] at q'; cases q'; rw [d] at d'; cases d'
    | rng q' => unfold IsRange at q'; rw [q] at q'; cases q'; cases d
end Mine
end
section
open PySem PySem.W PyProof.Rows PySem.Calls
set_option maxRecDepth 100000
namespace Mine
inductive Fl where
  | next | brk | cont
  | ret (d : D)
def FlowIs (ok : Addr → Prop) (h : Heap) : Flow → Fl → Prop
  | .next, .next => True
  | .brk, .brk => True
  | .cont, .cont => True
  | .ret v, .ret d => Rep ok h v d
  | _, _ => False
structure Mv (base : Heap) (W : Addr → Prop) (s s' : Shared) : Prop where
  ext : ExtBut base W s.heap s'.heap
  dom : ∀ b, s'.heap.get? b = none → s.heap.get? b = none
  os : s'.os = s.os
  gens : GensKeep s.gens s'.gens
theorem Stp.mv {base : Heap} {W : Addr → Prop} {s s' : Shared} (x : Stp base s s') : Mv base W s s' := ⟨fun b o _ e => x.ext b o e, fun b e => x.ext.none e, x.os, x.gens⟩
theorem Mv.stp {base : Heap} {W : Addr → Prop} {s s' : Shared} (x : Mv base W s s') (h : ∀ b, W b → s.heap.get? b = none) : Stp base s s' := ⟨fun b o e => x.ext b o (fun q => by rw [h b q] at e; cases e) e, x.os, x.gens⟩
theorem Mv.trans {base : Heap} {W W' : Addr → Prop} {a b c : Shared} (x : Mv base W a b) (y : Mv base W' b c) (h : ∀ p, W' p → W p ∨ a.heap.get? p = none) : Mv base W a c := by
  refine ⟨fun p o n e => ?_, fun p e => x.dom p (y.dom p e), y.os.trans x.os, x.gens.trans y.gens⟩
  obtain ⟨o', e', c', d', k'⟩ := x.ext p o n e
  obtain ⟨o'', e'', c'', d'', k''⟩ := y.ext p o' (fun q => (h p q).elim n fun z => by rw [z] at e; cases e) e'
  refine ⟨o'', e'', c''.trans c', d''.trans d', fun q => ?_⟩
  have := k' q; subst this
  exact k'' q
theorem Mv.base {base : Heap} {W : Addr → Prop} {s s' : Shared} (x : Mv base W s s') (k : base.StaysIn s.heap) (h : ∀ a, W a → base.get? a = none) : base.StaysIn s'.heap := by
  intro b o e
  obtain ⟨o', e', _, _, k'⟩ := x.ext b o (fun q => by rw [h b q] at e; cases e) (k b o e)
  rw [e', k' (.inl (by rw [e]; rfl))]
section
variable {G : Gr} {n : Nat} {env : Env} {σ : St}
def After (G : Gr) (env : Env) (σ : St) (ok : Addr → Prop) (s : Shared) (Q : Fl → St → Prop) (f : Flow) (s' : Shared) : Prop :=
  ∃ fl σ', Q fl σ' ∧ FlowIs ok s'.heap f fl ∧ Inv G.base ok env σ' s'.heap ∧ Mv G.base (Wr env σ) s s' ∧ G.base.StaysIn s'.heap ∧ ∀ a ∈ owned σ', a ∈ owned σ ∨ s.heap.get? a = none
def Ex (G : Gr) (n : Nat) (env : Env) (σ : St) (body : List Stmt) (Q : Fl → St → Prop) : Prop := ∀ ok A s E, Room n A → G.base.StaysIn s.heap → Inv G.base ok env σ s.heap →
  wpAny G.M A (execs body env) (After G env σ ok s Q) E s
def Ex1 (G : Gr) (n : Nat) (env : Env) (σ : St) (st : Stmt) (Q : Fl → St → Prop) : Prop := ∀ ok A s E, Room n A → G.base.StaysIn s.heap → Inv G.base ok env σ s.heap →
  wpAny G.M A (exec st env) (After G env σ ok s Q) E s
theorem After.trans {ok : Addr → Prop} {σ₁ : St} {s s₁ s₂ : Shared} {Q : Fl → St → Prop} {f : Flow} (m : Mv G.base (Wr env σ) s s₁) (o : ∀ a ∈ owned σ₁, a ∈ owned σ ∨ s.heap.get? a = none) (a : After G env σ₁ ok s₁ Q f s₂)
    (z : ∀ b, s₁.heap.get? b = none → s.heap.get? b = none) : After G env σ ok s Q f s₂ := by
  obtain ⟨fl, σ', q, fi, i, m', k, o'⟩ := a
  refine ⟨fl, σ', q, fi, i, m.trans m' ?_, k, fun b hb => ?_⟩
  · rintro p (h | h)
    · exact .inl (.inl h)
    · exact (o p h).imp .inr id
  · rcases o' b hb with h | h
    · exact o b h
    · exact .inr (z b h)
theorem After.mono {ok : Addr → Prop} {s s' : Shared} {Q Q' : Fl → St → Prop} {f : Flow} (a : After G env σ ok s Q f s') (h : ∀ fl σ', Q fl σ' → Q' fl σ') : After G env σ ok s Q' f s' := by
  obtain ⟨fl, σ', q, r⟩ := a
  exact ⟨fl, σ', h _ _ q, r⟩
theorem Ex.mono {body : List Stmt} {Q Q' : Fl → St → Prop} (a : Ex G n env σ body Q) (h : ∀ fl σ', Q fl σ' → Q' fl σ') : Ex G n env σ body Q' := fun ok A s E r k i => wpAny_mono (a ok A s E r k i) (fun _ _ p => p.mono h) fun _ _ x => x
theorem Ex1.mono {st : Stmt} {Q Q' : Fl → St → Prop} (a : Ex1 G n env σ st Q) (h : ∀ fl σ', Q fl σ' → Q' fl σ') : Ex1 G n env σ st Q' := fun ok A s E r k i => wpAny_mono (a ok A s E r k i) (fun _ _ p => p.mono h) fun _ _ x => x
theorem Ex.nil {Q : Fl → St → Prop} (h : Q .next σ) : Ex G n env σ [] Q := fun ok A s E r k i => wpAny_execs_nil ⟨.next, σ, h, trivial, i, Stp.refl.mv, k, fun _ h => .inl h⟩
theorem Ex.cons {st : Stmt} {rest : List Stmt} {Q : Fl → St → Prop} (h : Ex1 G n env σ st fun fl σ' => match fl with | .next => Ex G n env σ' rest Q | fl => Q fl σ') : Ex G n env σ (st :: rest) Q := fun ok A s E r k i =>
  wpAny_execs_cons (wpAny_mono (h ok A s E r k i) (fun f s' a => by
    obtain ⟨fl, σ', q, fi, i', m, k', o⟩ := a
    cases f <;> cases fl <;> first | exact fi.elim | skip
    · exact wpAny_mono (q ok A s' E r k' i') (fun _ _ a => a.trans m o m.dom) fun _ _ x => x
    · exact ⟨.brk, σ', q, trivial, i', m, k', o⟩
    · exact ⟨.cont, σ', q, trivial, i', m, k', o⟩
    · exact ⟨.ret _, σ', q, fi, i', m, k', o⟩) fun _ _ x => x)
/-- a statement that only steps on to a state -/
theorem Ex.step {st : Stmt} {rest : List Stmt} {Q : Fl → St → Prop} {P : St → Prop} (h : Ex1 G n env σ st fun fl σ' => fl = .next ∧ P σ') (hr : ∀ σ', P σ' → Ex G n env σ' rest Q) : Ex G n env σ (st :: rest) Q :=
  .cons (h.mono fun fl σ' p => by obtain ⟨rfl, p⟩ := p; exact hr σ' p)
theorem Ex.one {st : Stmt} {rest : List Stmt} {Q : Fl → St → Prop} {σ' : St} (h : Ex1 G n env σ st fun fl σ'' => fl = .next ∧ σ'' = σ') (hr : Ex G n env σ' rest Q) : Ex G n env σ (st :: rest) Q :=
  .step h fun _ e => e ▸ hr
/-- a name of the frame that may be stored -/
def Storable (env : Env) (x : Str) : Prop := env.kindOf x = some .local ∨ (env.kindOf x = some .cell ∧ (env.cells.lookup x).isSome = true)
theorem cells_inj {cs : List (Str × Addr)} (hp : cs.Pairwise fun x y => x.2 ≠ y.2) {x y : Str} {c : Addr} (hx : cs.lookup x = some c) (hy : cs.lookup y = some c) : x = y :=
  name_of_addr hp (mem_of_lookup hx) (mem_of_lookup hy)
theorem wpAny_store {M : Model} {A : Around} {E : Value → Shared → Prop} {s : Shared} {base : Heap} {x : Str} {v : Value} {Q : Unit → Shared → Prop} (F : Frame env s.heap) (hx : Storable env x)
    (h : ∀ s', Holds env s'.heap x v → (∀ y u, y ≠ x → Holds env s.heap y u → Holds env s'.heap y u) → Frame env s'.heap → Mv base (FrW env) s s' → Q () s') : wpAny M A (storeName env x v) Q E s := by
  rcases hx with hk | ⟨hk, hc⟩
  · obtain ⟨m, hn⟩ := F.ns
    refine wpAny_storeName_local hk hn (fun h' hn' hs' => ?_) (by rw [F.kind]; rfl)
    have hL : ∃ o, h'.get? env.locals = some o := let ⟨o, _, _, q, _⟩ := hn'; ⟨o, q⟩
    have keep : ∀ b, b ≠ env.locals → h'.get? b = s.heap.get? b := fun b hb => hs'.2 b hb
    refine h _ (.inl ⟨hk, _, hn', by simp⟩) (fun y u hy q => ?_) ⟨F.kind, ⟨_, hn'⟩, fun z c l => ?_, F.apart, F.away, F.glob, F.blt⟩ ⟨fun b o w e => ⟨o, (keep b fun q => w (.inl q)).trans e, rfl, rfl, fun _ => rfl⟩, fun b e => ?_, rfl, .refl⟩
    · rcases q with ⟨k, m', n', r⟩ | ⟨k, c, l, r⟩
      · refine .inl ⟨k, _, hn', ?_⟩
        have : m' y = m y := by
          obtain ⟨o, es, ep, q1, q2, _, q3⟩ := n'
          obtain ⟨o₂, es₂, ep₂, p1, p2, _, p3⟩ := hn
          rw [q1] at p1; cases p1; rw [q2] at p2; cases p2
          rw [← q3, ← p3]
        simp [hy, ← this, r]
      · exact .inr ⟨k, c, l, r.sameBut hs' (F.away y c l)⟩
    · obtain ⟨u, q⟩ := F.cells z c l
      exact ⟨u, q.sameBut hs' (F.away z c l)⟩
    · by_cases hb : b = env.locals
      · obtain ⟨o, q⟩ := hL
        have e' : h'.get? b = none := e
        rw [hb, q] at e'; cases e'
      · rw [← keep b hb]; exact e
  · obtain ⟨c, hc⟩ := Option.isSome_iff_exists.mp hc
    obtain ⟨u₀, hcell⟩ := F.cells x c hc
    refine wpAny_storeName_cell F.kind hk hc hcell fun h' hc' hs' => ?_
    have keep : ∀ b, b ≠ c → h'.get? b = s.heap.get? b := fun b hb => hs'.2 b hb
    obtain ⟨m, hn⟩ := F.ns
    refine h _ (.inr ⟨.inl hk, c, hc, hc'⟩) (fun y u hy q => ?_) ⟨F.kind, ⟨m, hn.sameBut hs' (Ne.symm (F.away x c hc))⟩, fun z c' l => ?_, F.apart, F.away, F.glob, F.blt⟩ ⟨fun b o w e => ⟨o, (keep b fun q => w (.inr ⟨x, q ▸ hc⟩)).trans e, rfl, rfl, fun _ => rfl⟩, fun b e => ?_, rfl, .refl⟩
    · rcases q with ⟨k, m', n', r⟩ | ⟨k, c', l, r⟩
      · exact .inl ⟨k, m', n'.sameBut hs' (Ne.symm (F.away x c hc)), r⟩
      · exact .inr ⟨k, c', l, r.sameBut hs' fun q => hy (cells_inj F.apart l (q ▸ hc))⟩
    · by_cases hz : c' = c
      · subst hz; exact ⟨_, hc'⟩
      · obtain ⟨u, q⟩ := F.cells z c' l
        exact ⟨u, q.sameBut hs' hz⟩
    · by_cases hb : b = c
      · obtain ⟨o, q, _⟩ := hc'
        have e' : h'.get? b = none := e
        rw [hb, q] at e'; cases e'
      · rw [← keep b hb]; exact e
end
end Mine
end
section
open PySem PySem.W PyProof.Rows PySem.Calls
set_option maxRecDepth 100000
namespace Mine
section
variable {G : Gr} {n : Nat} {env : Env} {σ : St}
theorem Inv.set_val {base : Heap} {ok : Addr → Prop} {s s' : Shared} {x : Str} {v : Value} {d : D} (i : Inv base ok env σ s.heap) (m : Mv base (FrW env) s s') (F : Frame env s'.heap) (hx : Holds env s'.heap x v)
    (ho : ∀ y u, y ≠ x → Holds env s.heap y u → Holds env s'.heap y u) (r : Rep (okO ok σ) s.heap v d) : Inv base ok env (setS x (.val d) σ) s'.heap := by
  have nf : ∀ {P : Addr → Prop} a, P a → IsNode s.heap a → ¬ FrW env a := fun a _ q => node_not_frame i.frame q
  have up : ∀ a, okO ok σ a → okO ok (setS x (.val d) σ) a := fun a q => ⟨q.1, fun z => q.2 (owned_setS_val z)⟩
  refine ⟨F, fun a w => i.off a (w.imp id fun z => owned_setS_val z), fun b e => i.fresh b (m.dom b e), fun y e l => ?_, fun y a ds l => ?_, fun a h => ?_, nodup_setS_val i.once⟩
  · by_cases hy : y = x
    · subst hy
      rw [lookup_setS_self] at l; cases l
      exact ⟨v, hx, r.extBut m.ext nf fun a q _ => up a q⟩
    · rw [lookup_setS_ne hy] at l
      obtain ⟨u, p, q⟩ := i.vals y e l
      exact ⟨u, ho y u hy p, q.extBut m.ext nf fun a q _ => up a q⟩
  · by_cases hy : y = x
    · subst hy; rw [lookup_setS_self] at l; cases l
    · rw [lookup_setS_ne hy] at l
      obtain ⟨p, q, vs, lst, rs⟩ := i.owns y a ds l
      exact ⟨ho y _ hy p, q, vs, m.ext.own (node_not_frame i.frame (.list lst.list)) lst, rs.extBut m.ext nf fun a q _ => up a q⟩
  · obtain ⟨vs, lst⟩ := i.there a (owned_setS_val h)
    exact ⟨vs, m.ext.own (node_not_frame i.frame (.list lst.list)) lst⟩
theorem Mv.weak {base : Heap} {W W' : Addr → Prop} {s s' : Shared} (x : Mv base W s s') (h : ∀ a, W a → W' a) : Mv base W' s s' := ⟨fun b o n e => x.ext b o (fun q => n (h b q)) e, x.dom, x.os, x.gens⟩
/-- x = e -/
theorem Ex1.assign {x : Str} {e : Expr} {p pos : Pos} {d : D} (h : Ev G n env σ e d) (hx : Storable env x) (hs : swapsWith e (some (.Name x p)) pos.line env = pure false := by rfl) :
    Ex1 G n env σ (.Assign [.Name x p] e pos) fun fl σ' => fl = .next ∧ σ' = setS x (.val d) σ := fun ok A s E r k i =>
  wpAny_Assign_Name (wpAny_mono (h ok A s E r k i) (fun v s₁ p₁ => by
    have i₁ := i.ext p₁.1.ext
    refine wpAny_store (base := G.base) i₁.frame hx fun s₂ hv ho F m => ?_
    have m' : Mv G.base (Wr env σ) s s₂ := (p₁.1.mv (W := Wr env σ)).trans (m.weak fun _ w => Or.inl w) fun _ w => .inl w
    exact ⟨.next, _, ⟨rfl, rfl⟩, trivial, i₁.set_val m F hv ho p₁.2, m', m'.base k i.off, fun a w => .inl (owned_setS_val w)⟩) fun _ _ x => x) hs
/-- an expression that makes a list -/
def EvF (G : Gr) (n : Nat) (env : Env) (σ : St) (e : Expr) (ds : List D) : Prop := ∀ ok A s E, Room n A → G.base.StaysIn s.heap → Inv G.base ok env σ s.heap →
  wpAny G.M A (eval e env) (fun v s' => Stp G.base s s' ∧ ∃ a vs, v = .ref a ∧ s.heap.get? a = none ∧ OwnL s'.heap a vs ∧ RepAll (fun b => okO ok σ b ∧ b ≠ a) s'.heap vs ds) E s
theorem EvF.ev {e : Expr} {ds : List D} (h : EvF G n env σ e ds) : Ev G n env σ e (.list ds) := fun ok A s E r k i =>
  wpAny_mono (h ok A s E r k i) (fun v s' p => by
    obtain ⟨st, a, vs, rfl, f, l, rs⟩ := p
    exact ⟨st, .list (i.freshO a f) l.list (rs.weak fun _ q => q.1)⟩) fun _ _ x => x
theorem EvF.list {es : List Expr} {p : Pos} {ds : List D} (h : EvL G n env σ es ds) (hz : ds.length ≤ sizeLine) : EvF G n env σ (.List es p) ds := fun ok A s E r k i =>
  List_ (wpAny_mono (h ok A s E p r k i) (fun vs s₁ p₁ => by
    refine wpAny_newObj_type ?_ (by show vs.toArray.size ≤ sizeLine; rw [List.size_toArray, p₁.2.length]; exact hz)
    have st : Stp G.base s₁ { s₁ with heap := s₁.heap.push { cls := .type "list", data := .seq vs.toArray } } := .push
    refine ⟨p₁.1.trans st, _, vs, rfl, p₁.1.ext.none fresh_get, ⟨_, Heap.get?_push_size _ rfl⟩, p₁.2.ext st.ext fun b q z => ⟨q, fun e => ?_⟩⟩
    rw [e, fresh_get] at z; cases z) fun _ _ x => x)
/-- a new list is stored, x from now on the frame's own to fill -/
theorem After.own {x : Str} {a : Addr} {vs : List Value} {ds : List D} {ok : Addr → Prop} {s s₁ s₂ : Shared} (k : G.base.StaysIn s.heap) (i : Inv G.base ok env σ s.heap) (st : Stp G.base s s₁) (f : s.heap.get? a = none) (l : OwnL s₁.heap a vs) (rs : RepAll (fun b => okO ok σ b ∧ b ≠ a) s₁.heap vs ds)
    (hv : Holds env s₂.heap x (.ref a)) (ho : ∀ y u, y ≠ x → Holds env s₁.heap y u → Holds env s₂.heap y u) (F : Frame env s₂.heap) (m : Mv G.base (FrW env) s₁ s₂) :
    Inv G.base ok env (setS x (.own a ds) σ) s₂.heap ∧ Mv G.base (Wr env σ) s s₂ ∧ G.base.StaysIn s₂.heap ∧ ∀ b ∈ owned (setS x (.own a ds) σ), b ∈ owned σ ∨ b = a := by
    have i₁ := i.ext st.ext
    have m' : Mv G.base (Wr env σ) s s₂ := (st.mv (W := Wr env σ)).trans (m.weak fun _ w => Or.inl w) fun _ w => .inl w
    have hno : a ∉ owned σ := fun w => by obtain ⟨_, _, q⟩ := i.there a w; rw [f] at q; cases q
    have hb : G.base.get? a = none := by
      cases q : G.base.get? a with
      | none => rfl
      | some o => rw [k a o q] at f; cases f
    have old : ∀ b, (s.heap.get? b).isSome = true → b ≠ a := fun b q e => by rw [e, f] at q; cases q
    refine ⟨?_, m', m'.base k i.off, fun b w => (owned_setS_sub w).imp id fun w => List.mem_singleton.mp w⟩
    have hax : Inv G.base ok env σ s.heap := i
    -- the trees of the other names stood before the list was made
    have i₀ : Inv G.base (fun b => ok b ∧ b ≠ a) env σ s₁.heap := by
      refine ⟨i₁.frame, i₁.off, fun b e => ⟨i₁.fresh b e, fun q => ?_⟩, fun y d l' => ?_, fun y b es l' => ?_, i₁.there, i₁.once⟩
      · obtain ⟨_, q'⟩ := l; rw [← q, e] at q'; cases q'
      · obtain ⟨u, p, q⟩ := i.vals y d l'
        exact ⟨u, p.ext st.ext, q.ext st.ext fun b w z => ⟨⟨w.1, old b z⟩, w.2⟩⟩
      · obtain ⟨p, q, us, w, t⟩ := i.owns y b es l'
        exact ⟨p.ext st.ext, ⟨q, old b w.some⟩, us, st.ext.own w, t.ext st.ext fun b w z => ⟨⟨w.1, old b z⟩, w.2⟩⟩
    have up : ∀ b, okO (fun b => ok b ∧ b ≠ a) σ b → okO ok (setS x (.own a ds) σ) b := fun b q => ⟨q.1.1, fun z => (owned_setS_sub z).elim q.2 fun w => q.1.2 (List.mem_singleton.mp w)⟩
    have nf : ∀ {P : Addr → Prop} a, P a → IsNode s₁.heap a → ¬ FrW env a := fun a _ q => node_not_frame i₁.frame q
    have lst' : ∀ {b us}, OwnL s₁.heap b us → OwnL s₂.heap b us := fun {b us} lst => m.ext.own (node_not_frame i₁.frame (.list lst.list)) lst
    refine ⟨F, fun b w => ?_, fun b e => i₁.fresh b (m.dom b e), fun y e l' => ?_, fun y b es l' => ?_, fun b h => ?_, nodup_setS_own i.once (.inl hno)⟩
    · rcases w with w | w
      · exact i.off b (.inl w)
      · rcases owned_setS_sub w with w | w
        · exact i.off b (.inr w)
        · rw [List.mem_singleton.mp w]; exact hb
    · by_cases hy : y = x
      · subst hy; rw [lookup_setS_self] at l'; cases l'
      · rw [lookup_setS_ne hy] at l'
        obtain ⟨u, p, q⟩ := i₀.vals y e l'
        exact ⟨u, ho y u hy p, q.extBut m.ext nf fun b q _ => up b q⟩
    · by_cases hy : y = x
      · subst hy
        rw [lookup_setS_self] at l'; cases l'
        exact ⟨hv, i.fresh a f, vs, lst' l, rs.extBut m.ext nf fun b q _ => up b ⟨⟨q.1.1, q.2⟩, q.1.2⟩⟩
      · rw [lookup_setS_ne hy] at l'
        obtain ⟨p, q, us, lst, r⟩ := i₀.owns y b es l'
        exact ⟨ho y _ hy p, q.1, us, lst' lst, r.extBut m.ext nf fun b q _ => up b q⟩
    · rcases owned_setS_sub h with h | h
      · exact (i₁.there b h).imp fun _ => lst'
      · rw [List.mem_singleton.mp h]; exact ⟨_, lst' l⟩
/-- x = [..], x from now on the frame's own to fill -/
theorem Ex1.assignF {x : Str} {e : Expr} {p pos : Pos} {ds : List D} (h : EvF G n env σ e ds) (hx : Storable env x) (hs : swapsWith e (some (.Name x p)) pos.line env = pure false := by rfl) :
    Ex1 G n env σ (.Assign [.Name x p] e pos) fun fl σ' => fl = .next ∧ ∃ a, σ' = setS x (.own a ds) σ := fun ok A s E r k i =>
  wpAny_Assign_Name (wpAny_mono (h ok A s E r k i) (fun v s₁ p₁ => by
    obtain ⟨st, a, vs, rfl, f, l, rs⟩ := p₁
    refine wpAny_store (base := G.base) (i.ext st.ext).frame hx fun s₂ hv ho F m => ?_
    obtain ⟨i', m', k', o'⟩ := After.own k i st f l rs hv ho F m
    exact ⟨.next, _, ⟨rfl, a, rfl⟩, trivial, i', m', k', fun b w => (o' b w).imp id fun w => by rw [w]; exact f⟩) fun _ _ x => x) hs
theorem Ex1.ret {e : Expr} {pos : Pos} {d : D} {Q : Fl → St → Prop} (h : EvB G n env σ e d) (q : Q (.ret d) σ) : Ex1 G n env σ (.Return (some e) pos) Q := fun ok A s E r k i =>
  wpAny_Return_some (wpAny_mono (h ok A s E r k i) (fun v s₁ p₁ => ⟨.ret d, σ, q, p₁.2, i.ext p₁.1.ext, p₁.1.mv, p₁.1.ext.base k, fun _ w => .inl w⟩) fun _ _ x => x)
theorem Ex1.ite {t : Expr} {a b : List Stmt} {pos : Pos} {c : Bool} {Q : Fl → St → Prop} (h : Tr G n env σ t c) (ha : c = true → Ex G n env σ a Q) (hb : c = false → Ex G n env σ b Q) : Ex1 G n env σ (.If t a b pos) Q := fun ok A s E r k i =>
  wpAny_If (wpAny_mono (h ok A s E r k i) (fun c' s₁ p₁ => by
    obtain ⟨st, rfl⟩ := p₁
    have go : ∀ body, Ex G n env σ body Q → wpAny G.M A (execs body env) (After G env σ ok s Q) E s₁ := fun body hq =>
      wpAny_mono (hq ok A s₁ E r (st.ext.base k) (i.ext st.ext)) (fun _ _ a => a.trans st.mv (fun _ w => .inl w) fun b e => st.ext.none e) fun _ _ x => x
    cases c' with
    | true => exact go _ (ha rfl)
    | false => exact go _ (hb rfl)) fun _ _ x => x)
end
end Mine
end
section
open PySem PySem.W PyProof.Rows PySem.Calls
set_option maxRecDepth 100000
namespace Mine
section
variable {G : Gr} {n : Nat} {env : Env} {σ : St}
theorem owned_setS_same {x : Str} {a : Addr} {ds es : List D} (l : σ.lookup x = some (.own a ds)) : owned (setS x (.own a es) σ) = owned σ := by
  obtain ⟨l₁, l₂, l₃, h1, h2, h3⟩ := owned_setS x (.own a es) σ
  rw [h1, h2, h3 _ l]; rfl
/-- the frame's own list is filled on -/
theorem Inv.upd {base : Heap} {ok : Addr → Prop} {s : Shared} {h' : Heap} {x : Str} {a : Addr} {vs : List Value} {ds ds' : List D} (i : Inv base ok env σ s.heap) (l : σ.lookup x = some (.own a ds))
    (hs : Heap.SameBut a s.heap h') (hl : OwnL h' a vs) (rs : RepAll (okO ok σ) s.heap vs ds') : Inv base ok env (setS x (.own a ds') σ) h' ∧ ∀ tk, Mv base (Wr env σ) s { s with heap := h', toks := tk } := by
  have hm := owned_of_lookup l
  obtain ⟨us, hus⟩ := i.there a hm
  have nfa : ¬ FrW env a := node_not_frame i.frame (.list hus.list)
  have keep : ∀ b, b ≠ a → h'.get? b = s.heap.get? b := fun b hb => hs.2 b hb
  have X : ExtBut base (· = a) s.heap h' := fun b o w e => ⟨o, (keep b w).trans e, rfl, rfl, fun _ => rfl⟩
  have nf : ∀ b, okO ok σ b → IsNode s.heap b → ¬ (b = a) := fun b q _ e => q.2 (e ▸ hm)
  have eo := owned_setS_same (es := ds') l
  have hok : okO ok (setS x (.own a ds') σ) = okO ok σ := by funext b; unfold okO; rw [eo]
  have hh : ∀ y v, Holds env s.heap y v → Holds env h' y v := fun y v q => by
    rcases q with ⟨k, m, hn, r⟩ | ⟨k, c, hc, r⟩
    · exact .inl ⟨k, m, hn.sameBut hs fun e => nfa (.inl e.symm), r⟩
    · exact .inr ⟨k, c, hc, r.sameBut hs fun e => nfa (.inr ⟨y, e ▸ hc⟩)⟩
  have dom : ∀ b, h'.get? b = none → s.heap.get? b = none := fun b e => by
    by_cases hb : b = a
    · have := hl.some; rw [← hb, e] at this; cases this
    · rw [← keep b hb]; exact e
  refine ⟨⟨⟨i.frame.kind, ?_, fun y c q => ?_, i.frame.apart, i.frame.away, i.frame.glob, i.frame.blt⟩, fun b w => i.off b (w.imp id fun w => eo ▸ w), fun b e => i.fresh b (dom b e), fun y d q => ?_, fun y b es q => ?_, fun b w => ?_, eo ▸ i.once⟩, fun tk => ⟨fun b o w e => X b o (fun q => w (.inr (q ▸ hm))) e, dom, rfl, .refl⟩⟩
  · obtain ⟨m, hn⟩ := i.frame.ns
    exact ⟨m, hn.sameBut hs fun e => nfa (.inl e.symm)⟩
  · obtain ⟨v, hv⟩ := i.frame.cells y c q
    exact ⟨v, hv.sameBut hs fun e => nfa (.inr ⟨y, e ▸ q⟩)⟩
  · rw [hok]
    by_cases hy : y = x
    · subst hy; rw [lookup_setS_self] at q; cases q
    · rw [lookup_setS_ne hy] at q
      obtain ⟨u, p, r⟩ := i.vals y d q
      exact ⟨u, hh y u p, r.extBut X nf fun _ w _ => w⟩
  · rw [hok]
    by_cases hy : y = x
    · subst hy
      rw [lookup_setS_self] at q; cases q
      obtain ⟨p, o, _⟩ := i.owns y a ds l
      exact ⟨hh y _ p, o, vs, hl, rs.extBut X nf fun _ w _ => w⟩
    · rw [lookup_setS_ne hy] at q
      obtain ⟨p, o, ws, lw, rw'⟩ := i.owns y b es q
      have hne : b ≠ a := fun e => by
        subst e
        -- two names own the same list: not so
        have h1 : b ∉ owned (setS x (.val .none) σ) := notMem_setS_val i.once l
        exact h1 (owned_of_lookup (x := y) (ds := es) (by rw [lookup_setS_ne hy]; exact q))
      exact ⟨hh y _ p, o, ws, X.own hne lw, rw'.extBut X nf fun _ w _ => w⟩
  · rw [eo] at w
    by_cases hb : b = a
    · subst hb; exact ⟨vs, hl⟩
    · obtain ⟨ws, lw⟩ := i.there b w
      exact ⟨ws, X.own hb lw⟩
/-- x.append(e) -/
theorem Ex1.append {x : Str} {p1 p2 p3 pos : Pos} {e : Expr} {a : Addr} {ds : List D} {d : D} (l : σ.lookup x = some (.own a ds)) (h : Ev G n env σ e d) (hz : ds.length < sizeLine)
    (hd : (x == ("__debug__" : Str)) = false := by decide) (hc : (x == ("__classdict__" : Str)) = false := by decide)
    (hs : swapsWith (.Call (.Attribute (.Name x p1) "append" p2) [e] [] p3) none pos.line env = pure false := by rfl)
    (he1 : starEach [e] env = [(false, eval e env)] := by rfl)
    {pl : Sem Bool} (he : eval (.Call (.Attribute (.Name x p1) "append" p2) [e] [] p3) env = (do
      let ov ← eval (.Name x p1) env
      standAt p2.atName
      let (f, first) ← holding [ov] (getMethod ov "append" pl)
      callWith p3 f first (backTo p3 (starEach [e] env)) []) := by rfl) :
    Ex1 G n env σ (.Expr (.Call (.Attribute (.Name x p1) "append" p2) [e] [] p3) pos) fun fl σ' => fl = .next ∧ σ' = setS x (.own a (ds ++ [d])) σ := fun ok A s E r k i => by
  obtain ⟨q, o, vs, lv, rs⟩ := i.owns x a ds l
  refine wpAny_Expr (MethodCall_ (pl := pl) (wpAny_holds i.frame.kind q ?_ hd hc) he) (by unfold interactive; rw [i.frame.kind]; rfl) hs
  obtain ⟨m, hm⟩ := lv
  refine getMethod_list_append hm rfl rfl ?_
  refine callWith_callee (.builtin _) (by rw [he1]; rfl) (G := G) ?_ (by cases e <;> first | rfl | cases he1)
  refine PyProof.Rows.args_cons (wpAny_mono (h ok A s E r k i) (fun v s₁ p₁ => PyProof.Rows.args_nil ?_) fun _ _ x => x) he1
  have k₁ := p₁.1.ext.base k
  have i₁ := i.ext p₁.1.ext
  refine ⟨k₁, ?_⟩
  obtain ⟨m₁, hm₁⟩ := p₁.1.ext.own ⟨m, hm⟩
  refine append_at (hsz := by rw [List.size_toArray, rs.length]; omega) hm₁ fun h' hs' hl' => ?_
  have hl : OwnL h' a (vs ++ [v]) := ⟨m₁ + 1, by rw [hl']; simp⟩
  obtain ⟨i', m'⟩ := i₁.upd l hs' hl ((rs.stp p₁.1).append (.cons p₁.2 .nil))
  have mv := (p₁.1.mv (W := Wr env σ)).trans (m' s₁.toks) fun _ w => .inl w
  exact ⟨.next, _, ⟨rfl, rfl⟩, trivial, i', mv, mv.base k i.off, fun b w => .inl (owned_setS_same (es := ds ++ [d]) l ▸ w)⟩
theorem lookup_some_of_setS {x y : Str} {s t : Slot} (h : (setS x s σ).lookup y = some t) (n : y ≠ x) : σ.lookup y = some t := by rwa [lookup_setS_ne n] at h
/-- the own list is left as it is from here on: a value as any other -/
theorem Inv.freeze {base : Heap} {ok : Addr → Prop} {h : Heap} {x : Str} {a : Addr} {ds : List D} (i : Inv base ok env σ h) (l : σ.lookup x = some (.own a ds)) : Inv base ok env (setS x (.val (.list ds)) σ) h := by
  have up : ∀ b, okO ok σ b → okO ok (setS x (.val (.list ds)) σ) b := fun b q => ⟨q.1, fun z => q.2 (owned_setS_val z)⟩
  refine ⟨i.frame, fun b w => i.off b (w.imp id owned_setS_val), i.fresh, fun y d q => ?_, fun y b es q => ?_, fun b w => i.there b (owned_setS_val w), nodup_setS_val i.once⟩
  · by_cases hy : y = x
    · subst hy
      rw [lookup_setS_self] at q; cases q
      obtain ⟨p, o, vs, lv, rs⟩ := i.owns y a ds l
      exact ⟨_, p, .list ⟨o, notMem_setS_val i.once l⟩ lv.list (rs.weak up)⟩
    · obtain ⟨u, p, r⟩ := i.vals y d (lookup_some_of_setS q hy)
      exact ⟨u, p, r.weak up⟩
  · by_cases hy : y = x
    · subst hy; rw [lookup_setS_self] at q; cases q
    · obtain ⟨p, o, vs, lv, rs⟩ := i.owns y b es (lookup_some_of_setS q hy)
      exact ⟨p, o, vs, lv, rs.weak up⟩
theorem After.sub {ok : Addr → Prop} {s s' : Shared} {σ' : St} {Q : Fl → St → Prop} {f : Flow} (h : ∀ b ∈ owned σ', b ∈ owned σ) (a : After G env σ' ok s Q f s') : After G env σ ok s Q f s' := by
  obtain ⟨fl, σ₂, q, fi, i, m, k, o⟩ := a
  exact ⟨fl, σ₂, q, fi, i, m.weak fun b w => w.imp id (h b), k, fun b w => (o b w).imp (h b) id⟩
theorem Ex.freeze {x : Str} {a : Addr} {ds : List D} {body : List Stmt} {Q : Fl → St → Prop} (l : σ.lookup x = some (.own a ds)) (h : Ex G n env (setS x (.val (.list ds)) σ) body Q) : Ex G n env σ body Q := fun ok A s E r k i =>
  wpAny_mono (h ok A s E r k (i.freeze l)) (fun _ _ a => a.sub fun b w => owned_setS_val w) fun _ _ x => x
/-- forgetting -/
def Sub : St → St → Prop
  | [], _ => True
  | (x, s) :: r, σ => σ.lookup x = some s ∧ Sub r σ
theorem Sub.get {σ₀ : St} : ∀ {σ₁ : St}, Sub σ₀ σ₁ → ∀ {x : Str} {s : Slot}, σ₀.lookup x = some s → σ₁.lookup x = some s := by
  induction σ₀ with
  | nil => intro _ _ x s h; cases h
  | cons y r ih =>
    intro σ₁ hs x s h
    obtain ⟨y, t⟩ := y
    rw [List.lookup_cons] at h
    cases e : x == y with
    | true => rw [e] at h; cases h; rw [beq_iff_eq.mp e]; exact hs.1
    | false => rw [e] at h; exact ih hs.2 h
theorem Sub.owned {σ₀ σ₁ : St} (h : Sub σ₀ σ₁) : ∀ a ∈ owned σ₀, a ∈ owned σ₁ := by
  induction σ₀ with
  | nil => intro a w; cases w
  | cons y r ih =>
    obtain ⟨y, t⟩ := y
    intro a w
    rw [owned_cons] at w
    rcases List.mem_append.mp w with w | w
    · cases t with
      | val d => cases w
      | own b es => rw [List.mem_singleton.mp w]; exact owned_of_lookup h.1
    · exact ih h.2 a w
theorem Inv.sub {base : Heap} {ok : Addr → Prop} {h : Heap} {σ₀ : St} (i : Inv base ok env σ h) (hs : Sub σ₀ σ) (hn : (owned σ₀).Nodup) : Inv base ok env σ₀ h := by
  have up : ∀ b, okO ok σ b → okO ok σ₀ b := fun b q => ⟨q.1, fun z => q.2 (hs.owned b z)⟩
  exact ⟨i.frame, fun b w => i.off b (w.imp id (hs.owned b)), i.fresh, fun y d q => let ⟨u, p, r⟩ := i.vals y d (hs.get q); ⟨u, p, r.weak up⟩,
    fun y b es q => let ⟨p, o, vs, lv, rs⟩ := i.owns y b es (hs.get q); ⟨p, o, vs, lv, rs.weak up⟩, fun b w => i.there b (hs.owned b w), hn⟩
end
end Mine
end
section
open PySem PySem.W PyProof.Rows PySem.Calls
set_option maxRecDepth 100000
namespace Mine
section
variable {G : Gr} {n : Nat} {env : Env} {σ : St}
theorem RepAll.mv {base : Heap} {ok ok' : Addr → Prop} {s s' : Shared} {vs : List Value} {ds : List D} (i : Inv base ok env σ s.heap) (m : Mv base (Wr env σ) s s') (r : RepAll (okO ok σ) s.heap vs ds) (k : ∀ b, okO ok σ b → ok' b) : RepAll ok' s'.heap vs ds :=
  r.extBut m.ext (fun a q w z => z.elim (node_not_frame i.frame w) q.2) fun b q _ => k b q
/-- a target takes a value -/
def AssD (G : Gr) (n : Nat) (env : Env) (t : Expr) (d : D) (f : St → St) : Prop := ∀ σ ok A s E v, Room n A → G.base.StaysIn s.heap → Inv G.base ok env σ s.heap → Rep (okO ok σ) s.heap v d →
  wpAny G.M A (assign t env v) (fun _ s' => Inv G.base ok env (f σ) s'.heap ∧ Mv G.base (Wr env σ) s s' ∧ ∀ b ∈ owned (f σ), b ∈ owned σ) E s
theorem AssD.name {x : Str} {p : Pos} {d : D} (hx : Storable env x) : AssD G n env (.Name x p) d (setS x (.val d)) := fun σ ok A s E v r k i rp =>
  wpAny_assign_Name (wpAny_store (base := G.base) i.frame hx fun s' hv ho F m => ⟨i.set_val m F hv ho rp, m.weak fun _ w => .inl w, fun b w => owned_setS_val w⟩)
/-- a row of targets takes a row of values -/
def AssL (G : Gr) (n : Nat) (env : Env) (ts : List Expr) (ds : List D) (f : St → St) : Prop := ∀ σ ok A s E vs, Room n A → G.base.StaysIn s.heap → Inv G.base ok env σ s.heap → RepAll (okO ok σ) s.heap vs ds →
  wpAny G.M A (assignInOrder ((assignEach ts env).map (·.2)) vs) (fun _ s' => Inv G.base ok env (f σ) s'.heap ∧ Mv G.base (Wr env σ) s s' ∧ ∀ b ∈ owned (f σ), b ∈ owned σ) E s
theorem AssL.nil : AssL G n env [] [] id := fun σ ok A s E vs r k i rs => by
  cases rs
  exact wpAny_pure ⟨i, Stp.refl.mv, fun _ h => h⟩
theorem AssL.cons {t : Expr} {ts : List Expr} {d : D} {ds : List D} {f g : St → St} (h : AssD G n env t d f) (hs : AssL G n env ts ds g) (he : assignEach (t :: ts) env = (false, assign t env) :: assignEach ts env := by rfl) :
    AssL G n env (t :: ts) (d :: ds) (fun σ => g (f σ)) := fun σ ok A s E vs r k i rs => by
  cases rs with
  | cons a rest =>
    rw [he]
    refine wpAny_bind (wpAny_holding (wpAny_mono (h σ ok A s E _ r k i a) (fun _ s₁ p₁ => ?_) fun _ _ x => x))
    have up : ∀ b, okO ok σ b → okO ok (f σ) b := fun b q => ⟨q.1, fun z => q.2 (p₁.2.2 b z)⟩
    refine wpAny_mono (hs (f σ) ok A s₁ E _ r (p₁.2.1.base k i.off) p₁.1 (rest.mv i p₁.2.1 up)) (fun _ s₂ p₂ => ⟨p₂.1, p₁.2.1.trans p₂.2.1 fun b w => .inl (w.imp id (p₁.2.2 b)), fun b w => p₁.2.2 b (p₂.2.2 b w)⟩) fun _ _ x => x
theorem assignEach_length (ts : List Expr) : (assignEach ts env).length = ts.length := by
  induction ts with
  | nil => rfl
  | cons t r ih => cases t <;> simp [assignEach, ih]
theorem AssD.tuple {ts : List Expr} {k : Nat} {p : Pos} {ds : List D} {f : St → St} (h : AssL G n env ts ds f) (hn : ts.length = ds.length) (hstar : (assignEach ts env).findIdx? (·.1) = none := by rfl) : AssD G n env (.Tuple ts k p) (.tuple ds) f := fun σ ok A s E v r k i rp => by
  cases rp with
  | tuple o l rs =>
    refine assign_Tuple_tuple r.handled l (by rw [assignEach_length, hn, List.size_toArray, rs.length]) hstar fun h' he => ?_
    have st : Stp G.base s { s with heap := h' } := ⟨.of_stays fun b o e => he b o (Nat.ne_of_lt (Heap.lt_size e)) e, rfl, .refl⟩
    refine wpAny_mono (h σ ok A { s with heap := h' } E _ r (st.ext.base k) (i.ext st.ext) (rs.stp st)) (fun _ s₂ p₂ => ⟨p₂.1, (st.mv (W := Wr env σ)).trans p₂.2.1 fun _ w => .inl w, p₂.2.2⟩) fun _ _ x => x
/-- t = e, t a row of names -/
theorem Ex1.assignT {ts : List Expr} {k : Nat} {e : Expr} {p pos : Pos} {ds : List D} {f : St → St} (h : Ev G n env σ e (.tuple ds)) (ha : AssL G n env ts ds f) (hn : ts.length = ds.length := by rfl) (hstar : (assignEach ts env).findIdx? (·.1) = none := by rfl)
    (hs : swapsWithSole [.Tuple ts k p] e pos.line env = pure false := by rfl) (hw : swappedStores [.Tuple ts k p] e env = pure none := by rfl) :
    Ex1 G n env σ (.Assign [.Tuple ts k p] e pos) fun fl σ' => fl = .next ∧ σ' = f σ := fun ok A s E r k i =>
  Assign_Tuple (wpAny_mono (h ok A s E r k i) (fun v s₁ p₁ => wpAny_mono (AssD.tuple ha hn hstar σ ok A s₁ E v r (p₁.1.ext.base k) (i.ext p₁.1.ext) p₁.2) (fun _ s₂ p₂ =>
    have m := (p₁.1.mv (W := Wr env σ)).trans p₂.2.1 fun _ w => .inl w
    ⟨.next, _, ⟨rfl, rfl⟩, trivial, p₂.1, m, m.base k i.off, fun b w => .inl (p₂.2.2 b w)⟩) fun _ _ x => x) fun _ _ x => x) hs hw
/-- what an iterator does to the world: itself alone -/
structure MvI (base : Heap) (wr : Addr → Prop) (wg : Nat → Prop) (s s' : Shared) : Prop where
  ext : ExtBut base wr s.heap s'.heap
  dom : ∀ b, ¬ wr b → s'.heap.get? b = none → s.heap.get? b = none
  os : s'.os = s.os
  gkeep : ∀ (i : Nat) (x : GenState), ¬ wg i → s.gens[i]? = some x → s'.gens[i]? = some x
  gbare : (∀ x ∈ s.gens, x.bare = true) → ∀ x ∈ s'.gens, x.bare = true
theorem MvI.after {base : Heap} {W wr : Addr → Prop} {wg : Nat → Prop} {s s₁ s₂ : Shared} (m : Mv base W s s₁) (i : MvI base wr wg s₁ s₂) (h : ∀ a, wr a → s.heap.get? a = none) (hg : ∀ g, wg g → s.gens[g]? = none) : Mv base W s s₂ := by
  refine ⟨fun b o w e => ?_, fun b e => ?_, i.os.trans m.os, ⟨fun j x e => i.gkeep j x (fun z => by rw [hg j z] at e; cases e) (m.gens.keep j x e), fun q => i.gbare (m.gens.bare q)⟩⟩
  · obtain ⟨o', e', c', d', k'⟩ := m.ext b o w e
    obtain ⟨o'', e'', c'', d'', k''⟩ := i.ext b o' (fun z => by rw [h b z] at e; cases e) e'
    refine ⟨o'', e'', c''.trans c', d''.trans d', fun q => ?_⟩
    have := k' q; subst this
    exact k'' q
  · by_cases z : wr b
    · exact h b z
    · exact m.dom b (i.dom b z e)
/-- an iterator at work: the items that are to come -/
structure Itr (G : Gr) (A : Around) (ok : Addr → Prop) (target : Expr) (I : Addr) (ds : List D) (fp wr : Addr → Prop) (wg : Nat → Prop) (Sx : Nat → Shared → Prop) : Prop where
  frame : ∀ i s s' W, Sx i s → Mv G.base W s s' → (∀ a, fp a → ¬ W a) → (∀ a, ok a → IsNode s.heap a → ¬ W a) → Sx i s'
  node : ∀ i s a, Sx i s → wr a → ¬ IsNode s.heap a ∧ (s.heap.get? a).isSome = true
  item : ∀ i d s E ok', ds[i]? = some d → Sx i s → G.base.StaysIn s.heap → (∀ a, ok a → ok' a) → FreshOk ok' s.heap → wpAny G.M A (pyNext (.ref I)) (fun r s₁ => ∃ v, r = some v ∧
    wpAny G.M A (letOwnedTupleGo target (.ref I) v) (fun _ s' => Rep ok' s'.heap v d ∧ Sx (i + 1) s' ∧ MvI G.base wr wg s s') E s₁) E s
  done : ∀ s E, Sx ds.length s → G.base.StaysIn s.heap → wpAny G.M A (pyNext (.ref I)) (fun r s' => r = none ∧ MvI G.base wr wg s s') E s
  self : ∀ i s (Q : Value → Shared → Prop) E, Sx i s → Q (.ref I) s → wpAny G.M A (pyIter (.ref I)) Q E s
/-- the head of a for: the expression gives an iterator over ds -/
def EvI (G : Gr) (n : Nat) (env : Env) (σ : St) (e target : Expr) (ds : List D) : Prop := ∀ ok A s E, Room n A → G.base.StaysIn s.heap → Inv G.base ok env σ s.heap →
  wpAny G.M A (eval e env) (fun x s₁ => wpAny G.M A (pyIter x) (fun it s' => Stp G.base s s' ∧ ∃ I fp wr wg Sx, it = .ref I ∧
    Itr G A (fun a => okO ok σ a ∧ (s'.heap.get? a).isSome = true) target I ds fp wr wg Sx ∧ Sx 0 s' ∧ (∀ a, fp a → (s'.heap.get? a).isSome = true ∧ ¬ Wr env σ a) ∧ (∀ a, wr a → s.heap.get? a = none ∧ fp a) ∧ ∀ g, wg g → s.gens[g]? = none) E s₁) E s
/-- an iterator's steps leave the frame's state -/
theorem Inv.mvX {base : Heap} {ok ok' : Addr → Prop} {wr : Addr → Prop} {wg : Nat → Prop} {s s' : Shared} (i : Inv base ok env σ s.heap) (m : MvI base wr wg s s') (hf : ∀ a, wr a → ¬ Wr env σ a) (hn : ∀ a, wr a → IsNode s.heap a → ¬ ok a)
    (w : ∀ b, ok b → ok' b) (hd : FreshOk ok' s'.heap) : Inv base ok' env σ s'.heap := by
  have nf : ∀ a, okO ok σ a → IsNode s.heap a → ¬ wr a := fun a o q z => hn a z q o.1
  have hh : ∀ y v, Holds env s.heap y v → Holds env s'.heap y v := fun y v q => by
    rcases q with ⟨k, mm, hns, r⟩ | ⟨k, c, hc, r⟩
    · obtain ⟨o, es, ep, e, d, rr⟩ := hns
      obtain ⟨o', e', _, d', _⟩ := m.ext _ o (fun z => hf _ z (.inl (.inl rfl))) e
      exact .inl ⟨k, mm, ⟨o', es, ep, e', d'.trans d, rr⟩, r⟩
    · obtain ⟨o, e, d⟩ := r
      obtain ⟨o', e', _, d', _⟩ := m.ext _ o (fun z => hf _ z (.inl (.inr ⟨y, hc⟩))) e
      exact .inr ⟨k, c, hc, o', e', d'.trans d⟩
  have up : ∀ b, okO ok σ b → okO ok' σ b := fun b q => ⟨w b q.1, q.2⟩
  refine ⟨⟨i.frame.kind, ?_, fun y c q => ?_, i.frame.apart, i.frame.away, i.frame.glob, i.frame.blt⟩, i.off, hd, fun y d q => ?_, fun y b es q => ?_, fun b w => ?_, i.once⟩
  · obtain ⟨mm, o, es, ep, e, d, rr⟩ := i.frame.ns
    obtain ⟨o', e', _, d', _⟩ := m.ext _ o (fun z => hf _ z (.inl (.inl rfl))) e
    exact ⟨mm, o', es, ep, e', d'.trans d, rr⟩
  · obtain ⟨v, o, e, d⟩ := i.frame.cells y c q
    obtain ⟨o', e', _, d', _⟩ := m.ext _ o (fun z => hf _ z (.inl (.inr ⟨y, q⟩))) e
    exact ⟨v, o', e', d'.trans d⟩
  · obtain ⟨u, p, r⟩ := i.vals y d q
    exact ⟨u, hh y u p, r.extBut m.ext nf fun _ z _ => up _ z⟩
  · obtain ⟨p, o, vs, lv, rs⟩ := i.owns y b es q
    exact ⟨hh y _ p, w b o, vs, m.ext.own (fun z => hf b z (.inr (owned_of_lookup q))) lv, rs.extBut m.ext nf fun _ z _ => up _ z⟩
  · obtain ⟨vs, lv⟩ := i.there b w
    exact ⟨vs, m.ext.own (fun z => hf b z (.inr w)) lv⟩
theorem Inv.mvI {base : Heap} {ok : Addr → Prop} {wr : Addr → Prop} {wg : Nat → Prop} {s s' : Shared} (i : Inv base ok env σ s.heap) (m : MvI base wr wg s s') (hf : ∀ a, wr a → ¬ Wr env σ a) (hn : ∀ a, wr a → ¬ IsNode s.heap a)
    (hd : ∀ b, wr b → ok b) : Inv base ok env σ s'.heap :=
  i.mvX m hf (fun a w nd _ => hn a w nd) (fun _ q => q) fun b e => by
    by_cases z : wr b
    · exact hd b z
    · exact i.fresh b (m.dom b z e)
end
/-- an object stands, up to a namespace's marks -/
def Same1 (base h h' : Heap) (b : Addr) : Prop := ∀ o, h.get? b = some o → ∃ o', h'.get? b = some o' ∧ o'.cls = o.cls ∧ o'.data = o.data ∧ ((base.get? b).isSome = true ∨ isDict o.data = false → o' = o)
/-- what is known besides the frame's state: of objects that the frame does not write -/
structure Rd (base : Heap) (env : Env) (fp : Addr → Prop) (H : Around → Heap → Prop) : Prop where
  keep : ∀ A h h', H A h → (∀ b, fp b → Same1 base h h' b) → H A h'
  apart : ∀ A h, H A h → Frame env h → ∀ b, fp b → (h.get? b).isSome = true ∧ ¬ FrW env b ∧ ∀ vs, ¬ OwnL h b vs
/-- an iterator that also writes tuples that it alone knows: X -/
structure ItrX (G : Gr) (A : Around) (ok X : Addr → Prop) (target : Expr) (I : Addr) (ds : List D) (fp wr : Addr → Prop) (wg : Nat → Prop) (Sx : Nat → Shared → Prop) : Prop where
  frame : ∀ i s s' W, Sx i s → Mv G.base W s s' → (∀ a, fp a → ¬ W a) → (∀ a, ok a → IsNode s.heap a → ¬ W a) → Sx i s'
  node : ∀ i s a, Sx i s → wr a → (¬ X a → ¬ IsNode s.heap a) ∧ (s.heap.get? a).isSome = true
  item : ∀ i d s E ok', ds[i]? = some d → Sx i s → G.base.StaysIn s.heap → (∀ a, ok a → ok' a) → FreshOk ok' s.heap → wpAny G.M A (pyNext (.ref I)) (fun r s₁ => ∃ v, r = some v ∧
    wpAny G.M A (letOwnedTupleGo target (.ref I) v) (fun _ s' => Rep ok' s'.heap v d ∧ Sx (i + 1) s' ∧ MvI G.base wr wg s s') E s₁) E s
  done : ∀ s E, Sx ds.length s → G.base.StaysIn s.heap → wpAny G.M A (pyNext (.ref I)) (fun r s' => r = none ∧ MvI G.base wr wg s s') E s
def EvIX (G : Gr) (n : Nat) (env : Env) (σ : St) (e target : Expr) (ds : List D) : Prop := ∀ ok A s E, Room n A → G.base.StaysIn s.heap → Inv G.base ok env σ s.heap →
  wpAny G.M A (eval e env) (fun x s₁ => wpAny G.M A (pyIter x) (fun it s' => Stp G.base s s' ∧ ∃ I fp wr wg Sx X, it = .ref I ∧
    ItrX G A (fun a => okO ok σ a ∧ (s'.heap.get? a).isSome = true ∧ ¬ X a) X target I ds fp wr wg Sx ∧ Sx 0 s' ∧ (∀ a, fp a → (s'.heap.get? a).isSome = true ∧ ¬ Wr env σ a) ∧ (∀ a, wr a → s.heap.get? a = none ∧ fp a) ∧ (∀ a, X a → wr a) ∧ ∀ g, wg g → s.gens[g]? = none) E s₁) E s
section
variable {G : Gr} {n : Nat} {env : Env} {σ : St} {fp : Addr → Prop} {H : Around → Heap → Prop}
theorem Rd.ext {base h h' : Heap} {A : Around} (R : Rd base env fp H) (x : Ext base h h') (k : H A h) : H A h' := R.keep A h h' k fun b _ o e => x b o e
theorem Rd.mv {ok : Addr → Prop} {base : Heap} {A : Around} {s s' : Shared} (R : Rd base env fp H) (i : Inv base ok env σ s.heap) (m : Mv base (Wr env σ) s s') (k : H A s.heap) : H A s'.heap :=
  R.keep A _ _ k fun b hb o e => m.ext b o (fun w => by
    obtain ⟨_, h2, h3⟩ := R.apart A _ k i.frame b hb
    rcases w with w | w
    · exact h2 w
    · obtain ⟨vs, l⟩ := i.there b w; exact h3 vs l) e
def ExP (G : Gr) (n : Nat) (env : Env) (H : Around → Heap → Prop) (σ : St) (body : List Stmt) (Q : Fl → St → Prop) : Prop := ∀ ok A s E, H A s.heap → Room n A → G.base.StaysIn s.heap → Inv G.base ok env σ s.heap →
  wpAny G.M A (execs body env) (After G env σ ok s Q) E s
def ExP1 (G : Gr) (n : Nat) (env : Env) (H : Around → Heap → Prop) (σ : St) (st : Stmt) (Q : Fl → St → Prop) : Prop := ∀ ok A s E, H A s.heap → Room n A → G.base.StaysIn s.heap → Inv G.base ok env σ s.heap →
  wpAny G.M A (exec st env) (After G env σ ok s Q) E s
theorem ExP.of {body : List Stmt} {Q : Fl → St → Prop} (h : Ex G n env σ body Q) : ExP G n env H σ body Q := fun ok A s E _ r k i => h ok A s E r k i
theorem Inv.hides {base h h' : Heap} {ok X : Addr → Prop} (i : Inv base ok env σ h) (x : Ext base h h') (hX : ∀ a, X a → h.get? a = none) (hX' : ∀ a, X a → (h'.get? a).isSome = true) : Inv base (fun b => ok b ∧ ¬ X b) env σ h' := by
  have i' := i.ext x
  have old : ∀ b, (h.get? b).isSome = true → ¬ X b := fun b q w => by rw [hX b w] at q; cases q
  refine ⟨i'.frame, i'.off, fun b e => ⟨i'.fresh b e, fun w => by have := hX' b w; rw [e] at this; cases this⟩, fun y d l => ?_, fun y b es l => ?_, i'.there, i'.once⟩
  · obtain ⟨u, p, q⟩ := i.vals y d l
    exact ⟨u, p.ext x, q.ext x fun b w z => ⟨⟨w.1, old b z⟩, w.2⟩⟩
  · obtain ⟨p, q, us, w, t⟩ := i.owns y b es l
    exact ⟨p.ext x, ⟨q, old b w.some⟩, us, x.own w, t.ext x fun b w z => ⟨⟨w.1, old b z⟩, w.2⟩⟩
theorem Inv.wide {base h : Heap} {ok ok' : Addr → Prop} (i : Inv base ok env σ h) (w : ∀ b, ok b → ok' b) (f : FreshOk ok' h) : Inv base ok' env σ h :=
  ⟨i.frame, i.off, f, fun y d l => let ⟨u, p, q⟩ := i.vals y d l; ⟨u, p, q.weak fun b z => ⟨w b z.1, z.2⟩⟩, fun y b es l => let ⟨p, q, us, z, t⟩ := i.owns y b es l; ⟨p, w b q, us, z, t.weak fun b z => ⟨w b z.1, z.2⟩⟩, i.there, i.once⟩
theorem turn_lt {j n : Nat} (h : j < n) : n + 1 - (j + 1) < n + 1 - j := by omega
/-- what holds between two turns -/
inductive FxI (G : Gr) (env : Env) (σ : St) (ok : Addr → Prop) (H : Around → Heap → Prop) (A : Around) (J : Nat → St → Prop) (Sx : Nat → Shared → Prop) (wr : Addr → Prop) (len : Nat) (s s₂ : Shared) (m : Nat) (s' : Shared) : Prop
  | mk (j : Nat) (σ₁ : St) (hj : j ≤ len) (hm : m = len + 1 - j) (hJ : J j σ₁) (hSx : Sx j s') (inv : Inv G.base ok env σ₁ s'.heap) (mv : Mv G.base (Wr env σ) s s') (hk : G.base.StaysIn s'.heap) (hq : H A s'.heap)
    (how : ∀ a ∈ owned σ₁, a ∈ owned σ ∨ s₂.heap.get? a = none) (hdom : ∀ b, ¬ wr b → s'.heap.get? b = none → s₂.heap.get? b = none) : FxI G env σ ok H A J Sx wr len s s₂ m s'
theorem ExP1.forX {target iter : Expr} {body : List Stmt} {pos : Pos} {ds : List D} {f : D → St → St} {Q : Fl → St → Prop} (R : Rd G.base env fp H) (hi : EvIX G n env σ iter target ds) (ht : ∀ d ∈ ds, AssD G n env target d (f d)) (J : Nat → St → Prop) (h0 : J 0 σ)
    (turn : ∀ i d σ₁, ds[i]? = some d → J i σ₁ → ExP G n env H (f d σ₁) body fun fl σ₂ => match fl with
      | .next | .cont => J (i + 1) σ₂
      | .brk => Q .next σ₂
      | .ret r => Q (.ret r) σ₂)
    (done : ∀ σ₁, J ds.length σ₁ → Q .next σ₁) (hs : ∀ x, foldedSetIterable iter env x = pure x := by intro _; rfl) : ExP1 G n env H σ (.For target iter body [] pos) Q := fun ok A s E hq0 r k i => by
  refine wpAny_For (wpAny_mono (hi ok A s E r k i) (fun x s₁ p₁ => wpAny_mono p₁ (fun it s₂ p₂ => ?_) fun _ _ x => x) fun _ _ x => x) hs
  obtain ⟨st, I, fpi, wr, wg, Sx, X, rfl, W, hst, hfp, hwr, hX, hwg⟩ := p₂
  have i₂ : Inv G.base (fun b => ok b ∧ ¬ X b) env σ s₂.heap := i.hides st.ext (fun a w => (hwr a (hX a w)).1) fun a w => (W.node 0 s₂ a hst (hX a w)).2
  have hwfp : ∀ a, wr a → ¬ fp a := fun a h1 h2 => by
    have := (R.apart A _ hq0 i.frame a h2).1
    rw [(hwr a h1).1] at this; cases this
  refine codeAny_forLoop_any (FxI G env σ (fun b => ok b ∧ ¬ X b) H A J Sx wr ds.length s s₂) ?_ (ds.length + 1) ⟨0, σ, Nat.zero_le _, rfl, h0, hst, i₂, st.mv, st.ext.base k, R.ext st.ext hq0, fun a w => .inl w, fun _ _ e => e⟩
  rintro m s' ⟨j, σ₁, hj, rfl, hJ, hSx, hinv, hmv, hk, hq, how, hdom⟩
  have hfpw : ∀ a, fpi a → ¬ Wr env σ₁ a := fun a q w => by
    rcases w with w | w
    · exact (hfp a q).2 (.inl w)
    · rcases how a w with w | w
      · exact (hfp a q).2 (.inr w)
      · have := (hfp a q).1; rw [w] at this; cases this
  have hwr2 : ∀ a, wr a → ¬ Wr env σ₁ a := fun a q => hfpw a (hwr a q).2
  have hok1 : ∀ a, (okO ok σ a ∧ (s₂.heap.get? a).isSome = true ∧ ¬ X a) → okO (fun b => ok b ∧ ¬ X b) σ₁ a := fun a q => ⟨⟨q.1.1, q.2.2⟩, fun w => (how a w).elim q.1.2 fun z => by rw [z] at q; cases q.2.1⟩
  by_cases hlt : j < ds.length
  · have hd : ds[j]? = some ds[j] := List.getElem?_eq_getElem hlt
    refine wpAny_mono (W.item j ds[j] s' _ (okO (fun b => ok b ∧ ¬ X b) σ₁) hd hSx hk hok1 hinv.freshO) (fun r' s₃ q => ?_) fun _ _ x => x
    obtain ⟨v, rfl, q⟩ := q
    refine wpAny_mono q (fun _ s₄ q => ?_) fun _ _ x => x
    obtain ⟨rp, hSx', mi⟩ := q
    have inv₄ := hinv.mvX mi hwr2 (fun a w nd q => (W.node j s' a hSx w).1 q.2 nd) (fun _ q => q) fun b e => by
      have nw : ¬ wr b := fun w => by have := (W.node _ s₄ b hSx' w).2; rw [e] at this; cases this
      exact hinv.fresh b (mi.dom b nw e)
    have mv₄ := MvI.after hmv mi (fun a w => (hwr a w).1) hwg
    have hk₄ := mv₄.base k i.off
    have hq₄ : H A s₄.heap := R.keep A _ _ hq fun b hb o e => mi.ext b o (fun z => hwfp b z hb) e
    refine wpAny_mono (ht ds[j] (List.getElem_mem hlt) σ₁ (fun b => ok b ∧ ¬ X b) A s₄ _ v r hk₄ inv₄ rp) (fun _ s₅ q => ?_) fun _ _ x => x
    obtain ⟨inv₅, mv₅, ow₅⟩ := q
    have hq₅ : H A s₅.heap := R.mv inv₄ mv₅ hq₄
    have mv₅' : Mv G.base (Wr env σ) s s₅ := mv₄.trans mv₅ fun a w => by
      rcases w with w | w
      · exact .inl (.inl w)
      · exact (how a w).imp .inr fun z => st.ext.none z
    have hk₅ := mv₅'.base k i.off
    have hSx₅ : Sx (j + 1) s₅ := W.frame (j + 1) s₄ s₅ _ hSx' mv₅ (fun a q => hfpw a q) fun a q nd w => by
      rcases w with w | w
      · exact node_not_frame inv₄.frame nd w
      · exact (hok1 a q).2 w
    refine wpAny_mono (turn j ds[j] σ₁ hd hJ (fun b => ok b ∧ ¬ X b) A s₅ _ hq₅ r hk₅ inv₅) (fun fl s₆ q => ?_) fun _ _ x => x
    obtain ⟨fl', σ₂, q, fi, inv₆, mv₆, hk₆, ow₆⟩ := q
    have mv₆' : Mv G.base (Wr env σ) s s₆ := mv₅'.trans mv₆ fun a w => by
      rcases w with w | w
      · exact .inl (.inl w)
      · exact (how a (ow₅ a w)).imp .inr fun z => st.ext.none z
    have dom₅ : ∀ b, ¬ wr b → s₅.heap.get? b = none → s₂.heap.get? b = none := fun b nz e => hdom b nz (mi.dom b nz (mv₅.dom b e))
    have how₆ : ∀ a ∈ owned σ₂, a ∈ owned σ ∨ s₂.heap.get? a = none := fun a w => by
      rcases ow₆ a w with w | w
      · exact how a (ow₅ a w)
      · exact .inr (dom₅ a (fun z => by have := (W.node _ _ a hSx₅ z).2; rw [w] at this; cases this) w)
    have how₆' : ∀ a ∈ owned σ₂, a ∈ owned σ ∨ s.heap.get? a = none := fun a w => (how₆ a w).imp id fun z => st.ext.none z
    have go : J (j + 1) σ₂ → ∃ m, m < ds.length + 1 - j ∧ FxI G env σ (fun b => ok b ∧ ¬ X b) H A J Sx wr ds.length s s₂ m s₆ := fun hq =>
      ⟨ds.length + 1 - (j + 1), turn_lt hlt, j + 1, σ₂, hlt, rfl, hq, W.frame (j + 1) s₅ s₆ _ hSx₅ mv₆ (fun a q w => by
          rcases w with w | w
          · exact (hfp a q).2 (.inl w)
          · exact hfpw a q (.inr (ow₅ a w))) (fun a q nd w => by
          rcases w with w | w
          · exact node_not_frame inv₅.frame nd w
          · exact (hok1 a q).2 (ow₅ a w)), inv₆, mv₆', hk₆, R.mv inv₅ mv₆ hq₅, how₆, fun b nz e => dom₅ b nz (mv₆.dom b e)⟩
    cases fl <;> cases fl' <;> first | exact fi.elim | skip
    · exact go q
    · exact ⟨.next, σ₂, q, trivial, inv₆.wide (fun b q => q.1) fun b e => i.fresh b (mv₆'.dom b e), mv₆', hk₆, how₆'⟩
    · exact go q
    · exact ⟨.ret _, σ₂, q, Rep.weak fi fun b q => q.1, inv₆.wide (fun b q => q.1) fun b e => i.fresh b (mv₆'.dom b e), mv₆', hk₆, how₆'⟩
  · have hjl : j = ds.length := Nat.le_antisymm hj (Nat.not_lt.mp hlt)
    subst hjl
    refine wpAny_mono (W.done s' _ hSx hk) (fun r' s₃ q => ?_) fun _ _ x => x
    obtain ⟨rfl, mi⟩ := q
    have mv₃ := MvI.after hmv mi (fun a w => (hwr a w).1) hwg
    have inv₃ := hinv.mvX (ok' := ok) mi hwr2 (fun a w nd q => (W.node _ s' a hSx w).1 q.2 nd) (fun b q => q.1) fun b e => i.fresh b (mv₃.dom b e)
    exact wpAny_execs_nil ⟨.next, σ₁, done σ₁ hJ, trivial, inv₃, mv₃, mv₃.base k i.off, fun a w => (how a w).imp id fun z => st.ext.none z⟩
theorem EvI.x {e target : Expr} {ds : List D} (h : EvI G n env σ e target ds) : EvIX G n env σ e target ds := fun ok A s E r k i =>
  wpAny_mono (h ok A s E r k i) (fun x s₁ p => wpAny_mono p (fun it s₂ q => by
    obtain ⟨st, I, fp, wr, wg, Sx, e, W, h1, h2, h3, h4⟩ := q
    exact ⟨st, I, fp, wr, wg, Sx, fun _ => False, e, ⟨fun i s s' W' a b c d => W.frame i s s' W' a b c fun x y => d x ⟨y.1, y.2, fun z => z⟩, fun i s a x y => ⟨fun _ => (W.node i s a x y).1, (W.node i s a x y).2⟩, fun i d s E ok' a b c x => W.item i d s E ok' a b c fun y z => x y ⟨z.1, z.2, fun z => z⟩, W.done⟩, h1, h2, h3, fun _ z => z.elim, h4⟩) fun _ _ x => x) fun _ _ x => x
theorem rdT {base : Heap} : Rd base env (fun _ => False) (fun _ _ => True) := ⟨fun _ _ _ _ _ => trivial, fun _ _ _ _ _ z => z.elim⟩
theorem Ex1.for {target iter : Expr} {body : List Stmt} {pos : Pos} {ds : List D} {f : D → St → St} {Q : Fl → St → Prop} (hi : EvI G n env σ iter target ds) (ht : ∀ d ∈ ds, AssD G n env target d (f d)) (J : Nat → St → Prop) (h0 : J 0 σ)
    (turn : ∀ i d σ₁, ds[i]? = some d → J i σ₁ → Ex G n env (f d σ₁) body fun fl σ₂ => match fl with
      | .next | .cont => J (i + 1) σ₂
      | .brk => Q .next σ₂
      | .ret r => Q (.ret r) σ₂)
    (done : ∀ σ₁, J ds.length σ₁ → Q .next σ₁) (hs : ∀ x, foldedSetIterable iter env x = pure x := by intro _; rfl) : Ex1 G n env σ (.For target iter body [] pos) Q := fun ok A s E r k i =>
  ExP1.forX rdT hi.x ht J h0 (fun i d σ₁ h1 h2 => .of (turn i d σ₁ h1 h2)) done hs ok A s E trivial r k i
end
end Mine
end
section
open PySem PySem.W PyProof.Rows PySem.Calls
set_option maxRecDepth 100000
namespace Mine
section
variable {G : Gr} {n : Nat} {env : Env} {σ : St}
def plainIter (T : String) : Bool := !(["enumerate", "zip", "dict_itemiterator", "dict_reverseitemiterator", "odict_iterator", "itertools.zip_longest", "itertools.pairwise", "list", "tuple", "slice", "range"] : List String).contains T
theorem letOwned_plain {M : Model} {A : Around} {E : Value → Shared → Prop} {s : Shared} {target : Expr} {I : Addr} {v : Value} {o : Obj} {T : String} {Q : Unit → Shared → Prop} (ho : s.heap.get? I = some o) (hc : o.cls = .type T) (hT : plainIter T = true)
    (h : Q () s) : wpAny M A (letOwnedTupleGo target (.ref I) v) Q E s := by
  have hT' : (["enumerate", "zip", "dict_itemiterator", "dict_reverseitemiterator", "odict_iterator", "itertools.zip_longest", "itertools.pairwise"] : List String).contains T = false := by
    unfold plainIter at hT
    simp only [List.contains_cons, List.contains_nil, Bool.or_false, Bool.not_eq_true', Bool.or_eq_false_iff] at hT ⊢
    exact ⟨hT.1, hT.2.1, hT.2.2.1, hT.2.2.2.1, hT.2.2.2.2.1, hT.2.2.2.2.2.1, hT.2.2.2.2.2.2.1⟩
  have go : wpAny M A (match (Value.ref I, v) with
      | (.ref r, .ref a) => (do
        let o ← load r
        match o.cls, o.data with
        | .type n, .fields vs =>
          if ["enumerate", "zip", "dict_itemiterator", "dict_reverseitemiterator", "odict_iterator", "itertools.zip_longest", "itertools.pairwise"].contains n && vs[0]? == some (rawInt a) then
            rule "for.unpacks-the-owned-tuple"
            updateField r 0 .none
        | _, _ => pure () : Sem Unit)
      | _ => pure ()) Q E s := by
    cases v <;> first | exact wpAny_pure h | skip
    refine wpAny_bind (wpAny_load ho ?_)
    rw [hc]
    cases o.data <;> first | exact wpAny_pure h | skip
    simp only [hT', Bool.false_and, Bool.false_eq_true, if_false]
    exact wpAny_pure h
  cases target <;> first | exact wpAny_pure h | exact go
theorem MvI.of_keep {base : Heap} {I : Addr} {s : Shared} {h' : Heap} {tk : Nat} (h : ∀ b o, b ∉ [I] → s.heap.get? b = some o → h'.get? b = some o) : MvI base (· = I) (fun _ => False) s { s with heap := h', toks := tk } :=
  ⟨fun b o w e => ⟨o, h b o (by simpa using w) e, rfl, rfl, fun _ => rfl⟩, fun b w e => (by
    cases q : s.heap.get? b with
    | none => rfl
    | some o => (have := h b o (by simpa using w) q; rw [show h'.get? b = none from e] at this; cases this)), rfl, fun _ _ _ e => e, fun q => q⟩
theorem Itr.of_walks {A : Around} {ok : Addr → Prop} {target : Expr} {I : Addr} {ds ds' : List D} {vs : List Value} {fpl : List Addr} {m : Nat} {P : Nat → Value → Prop} {Stt : Nat → Heap → Prop} (W : Walks G.prog G.w A I fpl [I] m P Stt) (hm : m = ds.length)
    (hfp : ∀ b ∈ fpl, b = I ∨ (ok b ∧ ∀ i h, Stt i h → IsNode h b)) (hobj : ∀ i h, Stt i h → ∃ o T, h.get? I = some o ∧ o.cls = .type T ∧ isDict o.data = false ∧ plainIter T = true)
    (hP : ∀ i v d h, ds[i]? = some d → P i v → RepAll ok h vs ds' → Rep ok h v d) :
    Itr G A ok target I ds (· = I) (· = I) (fun _ => False) (fun i s => Stt i s.heap ∧ RepAll ok s.heap vs ds') where
  frame := fun i s s' W' hs mv hf hn => by
    refine ⟨W.frame i s.heap s'.heap hs.1 fun b hb o e => ?_, hs.2.extBut mv.ext hn fun _ q _ => q⟩
    rcases hfp b hb with rfl | ⟨q1, q2⟩
    · obtain ⟨o₁, T, e₁, _, d₁, _⟩ := hobj i _ hs.1
      rw [e] at e₁; cases e₁
      obtain ⟨o', e', _, _, k'⟩ := mv.ext b o (hf b rfl) e
      rw [e', k' (.inr d₁)]
    · have nd := q2 i _ hs.1
      obtain ⟨o', e', _, _, k'⟩ := mv.ext b o (hn b q1 nd) e
      rw [e', k' (.inr ?_)]
      cases nd with
      | list l => obtain ⟨o₂, e₂, _, k, d⟩ := l; rw [e] at e₂; cases e₂; rw [d]; rfl
      | tup l => obtain ⟨o₂, e₂, _, k, d⟩ := l; rw [e] at e₂; cases e₂; rw [d]; rfl
      | slice e₂ _ d => rw [e] at e₂; cases e₂; rw [d]; rfl
      | rng e₂ => unfold IsRange at e₂; rw [e] at e₂; cases e₂; rfl
  node := fun i s a hs ha => by
    subst ha
    obtain ⟨o, T, e, c, _, hT⟩ := hobj i _ hs.1
    refine ⟨fun nd => ?_, by rw [e]; rfl⟩
    cases nd with
    | list l => obtain ⟨o₂, e₂, c₂, _⟩ := l; rw [e] at e₂; cases e₂; rw [c] at c₂; cases c₂; cases hT
    | tup l => obtain ⟨o₂, e₂, c₂, _⟩ := l; rw [e] at e₂; cases e₂; rw [c] at c₂; cases c₂; cases hT
    | slice e₂ c₂ _ => rw [e] at e₂; cases e₂; rw [c] at c₂; cases c₂; cases hT
    | rng e₂ => unfold IsRange at e₂; rw [e] at e₂; cases e₂; cases c; cases hT
  item := fun i d s E ok' hd hs k hok hfr => by
    have hlt : i < m := by rw [hm]; exact (List.getElem?_eq_some_iff.mp hd).1
    refine W.item i s _ E hlt hs.1 fun v h' tk hp hst hk => ?_
    have mi : MvI G.base (· = I) (fun _ => False) s { s with heap := h', toks := tk } := .of_keep hk
    have rs : RepAll ok h' vs ds' := hs.2.extBut mi.ext (fun a q nd z => by
      obtain ⟨o, T, e, c, _, hT⟩ := hobj i _ hs.1
      subst z
      cases nd with
      | list l => obtain ⟨o₂, e₂, c₂, _⟩ := l; rw [e] at e₂; cases e₂; rw [c] at c₂; cases c₂; cases hT
      | tup l => obtain ⟨o₂, e₂, c₂, _⟩ := l; rw [e] at e₂; cases e₂; rw [c] at c₂; cases c₂; cases hT
      | slice e₂ c₂ _ => rw [e] at e₂; cases e₂; rw [c] at c₂; cases c₂; cases hT
      | rng e₂ => unfold IsRange at e₂; rw [e] at e₂; cases e₂; cases c; cases hT) fun _ q _ => q
    obtain ⟨o, T, e, c, _, hT⟩ := hobj _ _ hst
    exact ⟨v, rfl, letOwned_plain e c hT ⟨(hP i v d h' hd hp rs).weak hok, ⟨hst, rs⟩, mi⟩⟩
  done := fun s E hs k => W.done s _ E (hm ▸ hs.1) fun h' tk hk => ⟨rfl, .of_keep hk⟩
  self := fun i s Q E hs hq => W.self i s Q E hs.1 hq
/-- a value that may stand in a for's head -/
def IterD (G : Gr) (n : Nat) (d : D) (ds : List D) : Prop := ∀ ok A s E v target, Room n A → G.base.StaysIn s.heap → FreshOk ok s.heap → Rep ok s.heap v d →
  wpAny G.M A (pyIter v) (fun it s' => Stp G.base s s' ∧ ∃ I Sx, it = .ref I ∧ s.heap.get? I = none ∧ (s'.heap.get? I).isSome = true ∧
    Itr G A (fun a => ok a ∧ (s'.heap.get? a).isSome = true) target I ds (· = I) (· = I) (fun _ => False) Sx ∧ Sx 0 s') E s
theorem EvI.of_ev {e target : Expr} {d : D} {ds : List D} (h : Ev G n env σ e d) (hd : IterD G n d ds) : EvI G n env σ e target ds := fun ok A s E r k i =>
  wpAny_mono (h ok A s E r k i) (fun v s₁ p₁ => wpAny_mono (hd _ A s₁ E v target r (p₁.1.ext.base k) (i.ext p₁.1.ext).freshO p₁.2) (fun it s₂ p₂ => by
    obtain ⟨st, I, Sx, rfl, hI, hI', W, hs⟩ := p₂
    have h0 : s.heap.get? I = none := p₁.1.ext.none hI
    refine ⟨p₁.1.trans st, I, _, _, _, Sx, rfl, W, hs, fun a ha => ?_, fun a ha => ?_, fun g hg => hg.elim⟩
    · subst ha
      refine ⟨hI', ?_⟩
      rintro ((w | ⟨x, w⟩) | w)
      · obtain ⟨m, o, _, _, q, _⟩ := i.frame.ns; rw [← w, h0] at q; cases q
      · obtain ⟨_, o, q, _⟩ := i.frame.cells x a w; rw [h0] at q; cases q
      · obtain ⟨vs, l⟩ := i.there a w; have := l.some; rw [h0] at this; cases this
    · subst ha; exact ⟨h0, rfl⟩) fun _ _ x => x) fun _ _ x => x
theorem repAll_alloc {ok : Addr → Prop} {h : Heap} {vs : List Value} {ds : List D} (r : RepAll ok h vs ds) : RepAll (fun a => ok a ∧ (h.get? a).isSome = true) h vs ds := r.ext (base := h) .refl fun a q z => ⟨q, z⟩
theorem IterD.list {ds : List D} : IterD G n (.list ds) ds := fun ok A s E v target r k fr rp => by
  cases rp with
  | @list a vs _ o l rs =>
    have hne : a ≠ s.heap.objs.size := by obtain ⟨_, e, _⟩ := l; exact Nat.ne_of_lt (Heap.lt_size e)
    refine wpAny_pyIter_list l ?_
    have st : Stp G.base s { s with heap := s.heap.push { cls := .type "list_iterator", data := .fields #[.ref a, .int 0 0] } } := .push
    refine ⟨st, s.heap.objs.size, _, rfl, fresh_get, by rw [Heap.get?_push_size _ rfl]; rfl, Itr.of_walks (vs := vs) (ds' := ds) (Walks.list r.handled s.heap.objs.size a hne vs.toArray) (by rw [List.size_toArray, rs.length]) ?_ ?_ ?_,
      ⟨⟨_, Heap.get?_push_size _ rfl, rfl, rfl⟩, st.ext.list l⟩, ?_⟩
    · intro b hb
      rcases List.mem_cons.mp hb with rfl | hb
      · exact .inl rfl
      · rw [List.mem_singleton.mp hb]
        exact .inr ⟨⟨o, by obtain ⟨_, e, _⟩ := st.ext.list l; rw [e]; rfl⟩, fun i h q => .list q.2⟩
    · rintro i h ⟨⟨o', e, c, d⟩, _⟩
      exact ⟨o', _, e, c, by rw [d]; rfl, by decide⟩
    · intro i v d h hd hp rs'
      obtain ⟨u, e, rp⟩ := rs'.get hd
      have : vs[i]? = some v := by simpa using hp
      rw [this] at e; cases e; exact rp
    · exact repAll_alloc (rs.stp st)
/-- a text's signs -/
def signs (x : Str) : List D := x.cps.toList.map fun c => .str ⟨#[c]⟩
end
end Mine
end
section
open PySem PySem.W PyProof.Rows PySem.Calls
set_option maxRecDepth 100000
namespace Mine
/-- a def of the program by its place -/
def defAt (p : Program) (i : Nat) : DefRec := match p.main.body.drop i with
  | .FunctionDef name params body _ _ _ scope _ _ pos :: _ => ⟨name, params, body, scope, pos⟩
  | _ => ⟨⟨#[]⟩, ⟨[], [], none, [], [], none, []⟩, [], { kind := .function, names := [], isGenerator := false, isCoroutine := false, more := [] }, ⟨0, 0, 0, 0⟩⟩
/-- the frame of a def -/
structure FEnv (env : Env) (sc : Scope) : Prop where
  scope : env.scope = sc
  cells : ∀ x, sc.names.lookup x = some .cell → (env.cells.lookup x).isSome = true
section
variable {G : Gr} {n : Nat} {env : Env} {σ : St} {sc : Scope}
theorem FEnv.kind (F : FEnv env sc) {x : Str} {k : NameKind} (h : sc.names.lookup x = some k) : env.kindOf x = some k := by unfold Env.kindOf; rw [F.scope]; exact h
theorem FEnv.loc (F : FEnv env sc) {x : Str} (h : sc.names.lookup x = some .local) : Storable env x := .inl (F.kind h)
/-- the def stands in the ground -/
structure FnAt (G : Gr) (d : DefRec) (a : Addr) : Prop where
  name : G.mg d.name = some (.ref a)
  obj : ∃ o pm code doc, G.base.get? a = some o ∧ o.data = .func (docDef d.name d.params d.body d.scope pm code doc) ∧ G.base.CodeRec code d.name
theorem bindL_other (kd : Str → Option NameKind) {x : Str} : ∀ (bs : List (Str × Value)) (m : Str → Option Value), (∀ p ∈ bs, p.1 ≠ x) → bindL kd bs m x = m x
  | [], m, _ => rfl
  | (y, v) :: r, m, h => by
    unfold bindL
    rw [bindL_other kd r _ fun p hp => h p (.tail _ hp)]
    have : x ≠ y := fun e => h (y, v) (.head _) e.symm
    split <;> simp [this]
theorem bindC_other (kd : Str → Option NameKind) {x : Str} : ∀ (bs : List (Str × Value)) (m : Str → Option Value), (∀ p ∈ bs, p.1 ≠ x) → bindC kd bs m x = m x
  | [], m, _ => rfl
  | (y, v) :: r, m, h => by
    unfold bindC
    rw [bindC_other kd r _ fun p hp => h p (.tail _ hp)]
    have : x ≠ y := fun e => h (y, v) (.head _) e.symm
    split <;> simp [this]
theorem bindL_get (kd : Str → Option NameKind) {x : Str} {v : Value} (hk : kd x = some .local) : ∀ (bs : List (Str × Value)) (m : Str → Option Value), (bs.map (·.1)).Nodup → (x, v) ∈ bs → bindL kd bs m x = some v
  | (y, u) :: r, m, nd, h => by
    unfold bindL
    rw [List.map_cons, List.nodup_cons] at nd
    rcases List.mem_cons.mp h with e | h
    · cases e
      rw [bindL_other kd r _ fun p hp e => nd.1 (List.mem_map.mpr ⟨p, hp, e⟩), if_pos hk]; simp
    · exact bindL_get kd hk r _ nd.2 h
theorem bindC_get (kd : Str → Option NameKind) {x : Str} {v : Value} (hk : kd x = some .cell) : ∀ (bs : List (Str × Value)) (m : Str → Option Value), (bs.map (·.1)).Nodup → (x, v) ∈ bs → bindC kd bs m x = some v
  | (y, u) :: r, m, nd, h => by
    unfold bindC
    rw [List.map_cons, List.nodup_cons] at nd
    rcases List.mem_cons.mp h with e | h
    · cases e
      rw [bindC_other kd r _ fun p hp e => nd.1 (List.mem_map.mpr ⟨p, hp, e⟩), if_neg (by rw [hk]; decide)]; simp
    · exact bindC_get kd hk r _ nd.2 h
theorem repAll_zip {ok : Addr → Prop} {h : Heap} {x : Str} {d : D} : ∀ {xs : List Str} {vs : List Value} {ds : List D}, RepAll ok h vs ds → (xs.zip (ds.map Slot.val)).lookup x = some (.val d) → ∃ v, (x, v) ∈ xs.zip vs ∧ Rep ok h v d
  | [], _, _, _, q => by cases q
  | y :: ys, _, _, .nil, q => by cases q
  | y :: ys, _, _, .cons (v := v) a r, q => by
    rw [List.map_cons, List.zip_cons_cons, List.lookup_cons] at q
    cases e : x == y with
    | true => rw [e] at q; cases q; rw [beq_iff_eq.mp e]; exact ⟨v, List.mem_cons_self, a⟩
    | false =>
      rw [e] at q
      obtain ⟨u, m, rp⟩ := repAll_zip r q
      exact ⟨u, List.mem_cons_of_mem _ m, rp⟩
theorem owned_zip : ∀ (xs : List Str) (ds : List D), owned (xs.zip (ds.map Slot.val)) = []
  | [], _ => rfl
  | _ :: _, [] => rfl
  | x :: xs, d :: ds => by rw [List.map_cons, List.zip_cons_cons, owned_cons]; exact owned_zip xs ds
theorem lookup_zip_own {x : Str} {a : Addr} {es : List D} : ∀ (xs : List Str) (ds : List D), (xs.zip (ds.map Slot.val)).lookup x ≠ some (.own a es)
  | [], _ => nofun
  | _ :: _, [] => nofun
  | y :: ys, d :: ds => by
    rw [List.map_cons, List.zip_cons_cons, List.lookup_cons]
    cases x == y with
    | true => exact nofun
    | false => exact lookup_zip_own ys ds
/-- what a call of a def gives, by its body -/
theorem CallD.def {d : DefRec} {a : Addr} {ds : List D} {r : D} (F : FnAt G d a) (hds : d.params.args.length = ds.length)
    (hbind : ∀ pm code doc vs, vs.length = ds.length → bindArgs (docDef d.name d.params d.body d.scope pm code doc) ⟨vs, []⟩ = pure ((d.params.args.map (·.arg)).zip vs))
    (hkind : (d.params.args.all fun y => d.scope.names.lookup y.arg == some .local || d.scope.names.lookup y.arg == some .cell) = true) (hnd : (d.params.args.map (·.arg)).Nodup)
    (h : ∀ env, FEnv env d.scope → Ex G n env ((d.params.args.map (·.arg)).zip (ds.map Slot.val)) d.body fun fl _ => fl = .ret r)
    (hco : d.scope.isCoroutine = false) (hgen : d.scope.isGenerator = false) (hk : d.scope.kind = .function) : CallD G (n + 1) (.ref a) ds r := fun ok A s E vs rm k fr rs => by
  obtain ⟨o, pm, code, doc, ho, hd, hcd⟩ := F.obj
  refine wpAny_call (codeAny_call_cells (fd := docDef d.name d.params d.body d.scope pm code doc) (body := d.body) (vals := vs) (binds := (d.params.args.map (·.arg)).zip vs) (by have := rm.depth; omega) (k _ _ ho) hd (G.nolimit.keeps k) (hcd.keeps k) rfl (hbind _ _ _ _ rs.length) rfl ?_ (fun s₁ x => ?_) hco hgen hk)
  · intro p hp
    have hm : p.1 ∈ d.params.args.map (·.arg) := (List.of_mem_zip hp).1
    obtain ⟨y, hy, e⟩ := List.mem_map.mp hm
    have := List.all_eq_true.mp hkind y hy
    rw [e] at this
    exact kindsX (scope := d.scope) (binds := [(p.1, p.2)]) (by simpa using this) _ (p.1, p.2) (by simp)
  · generalize henv : callEnvC (docDef d.name d.params d.body d.scope pm code doc) s.heap.objs.size a = env at x ⊢
    have hsc : env.scope = d.scope := by rw [← henv]; rfl
    have hcs : env.cells = cellsFrom (s.heap.objs.size + 1) d.scope.names [] := by rw [← henv]; rfl
    have FE : FEnv env d.scope := ⟨hsc, fun y hy => by rw [hcs]; exact cellsFrom_some _ _ _ (.inl hy)⟩
    have hnoL : ∀ b, s.heap.objs.size ≤ b → s.heap.get? b = none := fun b hb => by
      cases q : s.heap.get? b with
      | none => rfl
      | some o => exact absurd (Nat.lt_of_lt_of_le (Heap.lt_size q) hb) (Nat.lt_irrefl _)
    have hfw : ∀ b, FrW env b → s.heap.get? b = none := fun b w => by
      rcases w with w | ⟨y, w⟩
      · exact hnoL b (w ▸ x.toInCall.fresh)
      · exact hnoL b (Nat.le_of_lt (Nat.lt_of_le_of_lt x.toInCall.fresh (x.above y b (mem_of_lookup w))))
    have hvl : ((d.params.args.map (·.arg)).zip vs).map (·.1) = d.params.args.map (·.arg) := by
      rw [List.map_fst_zip]; rw [List.length_map, hds, rs.length]; exact Nat.le_refl _
    have hnd' : (((d.params.args.map (·.arg)).zip vs).map (·.1)).Nodup := by rw [hvl]; exact hnd
    have st : Stp G.base s s₁ := by
      obtain ⟨h', tk, rfl, hkp⟩ := x.done
      exact .heap hkp
    have inv : Inv G.base ok env ((d.params.args.map (·.arg)).zip (ds.map Slot.val)) s₁.heap := by
      refine ⟨⟨by rw [hsc]; exact hk, ⟨_, x.toInCall.ns⟩, fun y c l => ⟨_, x.cell y c l⟩, x.apart, fun y c l => Nat.ne_of_gt (x.above y c (mem_of_lookup l)), by rw [← henv]; rfl, by rw [← henv]; rfl⟩,
        fun b w => ?_, fr.stp st.ext, fun y e l => ?_, fun y b es l => absurd l (lookup_zip_own _ _), fun b w => ?_, ?_⟩
      · rw [Wr, owned_zip] at w
        have := hfw b (w.elim id fun z => nomatch z)
        cases q : G.base.get? b with
        | none => rfl
        | some o => rw [k b o q] at this; cases this
      · obtain ⟨v, hm, rp⟩ := repAll_zip rs l
        refine ⟨v, ?_, (rp.stp st).weak fun b q => ⟨q, by rw [owned_zip]; simp⟩⟩
        have hy : y ∈ d.params.args.map (·.arg) := (List.of_mem_zip hm).1
        obtain ⟨z, hz, e⟩ := List.mem_map.mp hy
        have hkd := List.all_eq_true.mp hkind z hz
        rw [e] at hkd
        rcases Bool.or_eq_true_iff.mp hkd with q | q
        · have q' : env.kindOf y = some .local := FE.kind (by simpa using q)
          exact .inl ⟨q', _, x.toInCall.ns, bindL_get _ q' _ _ hnd' hm⟩
        · have q0 : d.scope.names.lookup y = some .cell := by simpa using q
          have q' : env.kindOf y = some .cell := FE.kind q0
          obtain ⟨c, hc⟩ := Option.isSome_iff_exists.mp (FE.cells y q0)
          refine .inr ⟨.inl q', c, hc, ?_⟩
          have := x.cell y c hc
          rw [bindC_get _ q' _ _ hnd' hm] at this
          exact this
      · rw [owned_zip] at w; cases w
      · rw [owned_zip]; exact List.nodup_nil
    refine wpAny_mono (h env FE ok _ s₁ (fun _ _ => False) rm.deeper (st.ext.base k) inv) (fun f s₂ q => ?_) fun _ _ x => x.elim
    obtain ⟨fl, σ', rfl, fi, _, mv, _, _⟩ := q
    cases f with
    | ret v =>
      refine ⟨?_, fi⟩
      have m2 : Mv G.base (FrW env) s s₂ := ((st.mv (W := FrW env))).trans mv fun b w => by rw [Wr, owned_zip] at w; exact .inl (w.elim id fun z => nomatch z)
      exact m2.stp hfw
    | _ => exact fi.elim
end
end Mine
end
section
open PySem PySem.W PyProof.Rows PySem.Calls
set_option maxRecDepth 100000
namespace Mine
section
variable {G : Gr} {n : Nat} {env : Env} {σ : St}
theorem BinD.add {x y : Int} : BinD G n .Add (.int x) (.int y) (.int (x + y)) := fun ok A s E va vb r k f ra rb => by
  cases ra; cases rb; exact P.add_int ⟨.tok, .int _ _⟩
theorem BinD.sub {x y : Int} : BinD G n .Sub (.int x) (.int y) (.int (x - y)) := fun ok A s E va vb r k f ra rb => by
  cases ra; cases rb; exact P.sub_int ⟨.tok, .int _ _⟩
theorem BinD.mul {x y : Int} (h : IntMulOk x y) : BinD G n .Mult (.int x) (.int y) (.int (x * y)) := fun ok A s E va vb r k f ra rb => by
  cases ra; cases rb; exact P.mul_int ⟨.tok, .int _ _⟩ h
theorem mulOk_left {x y : Int} (h1 : -(2 ^ 64) < x) (h2 : x < 2 ^ 64) : IntMulOk x y := .of_left (intBits_le_64 h1 h2)
theorem mulOk_right {x y : Int} (h1 : -(2 ^ 64) < y) (h2 : y < 2 ^ 64) : IntMulOk x y := .of_right (intBits_le_64 h1 h2)
theorem BinD.mod {x y : Int} (h : y ≠ 0) : BinD G n .Mod (.int x) (.int y) (.int (x.fmod y)) := fun ok A s E va vb r k f ra rb => by
  cases ra; cases rb; exact mod_int' h ⟨.tok, .int _ _⟩
theorem BinD.fdiv {x y : Int} (h : y ≠ 0) (hs : y.natAbs < 1073741824) : BinD G n .FloorDiv (.int x) (.int y) (.int (x.fdiv y)) := fun ok A s E va vb r k f ra rb => by
  cases ra; cases rb; exact floordiv_int h ⟨.tok, .int _ _⟩ (.inl (PyProof.noPylong_small hs))
theorem CmpD.eq_int {x y : Int} : CmpD G n .Eq (.int x) (.int y) (x == y) := fun ok A s E va vb r k f ra rb => by
  cases ra; cases rb; exact P.eq_int ⟨.refl, rfl⟩
theorem CmpD.lt_int {x y : Int} : CmpD G n .Lt (.int x) (.int y) (decide (x < y)) := fun ok A s E va vb r k f ra rb => by
  cases ra; cases rb; exact P.lt_int ⟨.refl, rfl⟩
theorem CmpD.le_int {x y : Int} : CmpD G n .LtE (.int x) (.int y) (decide (x ≤ y)) := fun ok A s E va vb r k f ra rb => by
  cases ra; cases rb; exact P.le_int ⟨.refl, rfl⟩
theorem CmpD.gt_int {x y : Int} : CmpD G n .Gt (.int x) (.int y) (decide (x > y)) := fun ok A s E va vb r k f ra rb => by
  cases ra; cases rb; exact P.gt_int ⟨.refl, rfl⟩
theorem CmpD.ge_int {x y : Int} : CmpD G n .GtE (.int x) (.int y) (decide (x ≥ y)) := fun ok A s E va vb r k f ra rb => by
  cases ra; cases rb; exact P.ge_int ⟨.refl, rfl⟩
theorem Ev.neg {e : Expr} {p : Pos} {x : Int} (h : Ev G n env σ e (.int x)) : Ev G n env σ (.UnaryOp .USub e p) (.int (-x)) := fun ok A s E r k i =>
  UnaryOp_ (wpAny_mono (h ok A s E r k i) (fun v s₁ p₁ => by
    obtain ⟨st, rp⟩ := p₁; cases rp
    exact P.neg_int ⟨st.trans .tok, .int _ _⟩) fun _ _ x => x)
theorem cps_eq_iff {x y : Str} : (x.cps.toList == y.cps.toList) = decide (x = y) := by
  obtain ⟨⟨x⟩⟩ := x; obtain ⟨⟨y⟩⟩ := y
  by_cases h : x = y
  · subst h; simp
  · have : ¬ ((⟨⟨x⟩⟩ : Str) = ⟨⟨y⟩⟩) := fun e => h (by injection e with e; injection e)
    simp [h]
theorem CmpD.ne_str {x y : Str} : CmpD G n .NotEq (.str x) (.str y) (!decide (x = y)) := fun ok A s E va vb r k f ra rb => by
  cases ra; cases rb; exact P.ne_str (by rw [bne, cps_eq_iff]; exact ⟨.refl, rfl⟩)
theorem BinD.add_str {x y : Str} (h : x.length + y.length ≤ sizeLine) : BinD G n .Add (.str x) (.str y) (.str (x ++ y)) := fun ok A s E va vb r k f ra rb => by
  cases ra; cases rb
  refine P.add_str ?_
  have hl : ∀ z : Str, (z.length == 0) = true → z = Str.empty := fun z hz => by
    obtain ⟨⟨l⟩⟩ := z
    cases l with
    | nil => rfl
    | cons a b => cases hz
  split
  · rename_i h0
    rw [hl x h0]
    exact ⟨.refl, by rw [show Str.empty ++ y = y from by obtain ⟨⟨l⟩⟩ := y; exact congrArg Str.mk (by simp [Str.empty])]; exact .str _ _⟩
  · split
    · rename_i h0
      rw [hl y h0]
      exact ⟨.refl, by rw [show x ++ Str.empty = x from by obtain ⟨⟨l⟩⟩ := x; exact congrArg Str.mk (by simp [Str.empty])]; exact .str _ _⟩
    · exact ⟨by rw [show (x ++ y).length = x.length + y.length from Array.size_append ..]; exact h, .tok, .str _ _⟩
theorem CallD.chr {i : Int} (h0 : 0 ≤ i) (h1 : i ≤ 1114111) : CallD G n (.builtin "chr") [.int i] (.str ⟨#[i.toNat]⟩) := fun ok A s E vs r k f rs => by
  cases rs with
  | cons a t => cases t; cases a; exact chr_of_range h0 h1 ⟨.tok, .str _ _⟩
theorem CallD.len_list {ds : List D} (h : ds.length < 2 ^ 62) : CallD G n (.builtin "len") [.list ds] (.int ds.length) := fun ok A s E vs r k f rs => by
  cases rs with
  | cons a t =>
    cases t
    cases a with
    | list o l rs => exact PyProof.Rows.len_list l (by rw [List.size_toArray, rs.length]; omega) ⟨.tok, by rw [List.size_toArray, rs.length]; exact .int _ _⟩
theorem IdxD.list {ds : List D} {i : Int} {d : D} (h0 : 0 ≤ i) (h1 : i < 2 ^ 62) (h : ds[i.toNat]? = some d) : IdxD G n (.list ds) (.int i) d := fun ok A s E vo vi r k f ro ri => by
  cases ri
  cases ro with
  | list o l rs =>
    obtain ⟨v, hv, rv⟩ := rs.get h
    exact wpAny_getItem_list l h0 (by omega) (by simpa using hv) ⟨.refl, rv⟩
theorem IdxD.list_neg {ds : List D} {i : Int} {d : D} (h0 : i < 0) (h1 : -(ds.length : Int) ≤ i) (h2 : -(2 ^ 62) ≤ i) (h : ds[(i + ds.length).toNat]? = some d) : IdxD G n (.list ds) (.int i) d := fun ok A s E vo vi r k f ro ri => by
  cases ri
  cases ro with
  | list o l rs =>
    obtain ⟨v, hv, rv⟩ := rs.get h
    exact wpAny_getItem_list_neg l h0 (by rw [List.size_toArray, rs.length]; exact h1) (by omega) (by rw [List.size_toArray, rs.length]; simpa using hv) ⟨.refl, rv⟩
theorem typeIs_list {ok : Addr → Prop} {s : Shared} {v : Value} {ds : List D} (r : Rep ok s.heap v (.list ds)) : s.TypeIs v "list" := by
  cases r with
  | list o l rs => exact l.typeIs
theorem typeIs_tuple {ok : Addr → Prop} {s : Shared} {v : Value} {ds : List D} (r : Rep ok s.heap v (.tuple ds)) : s.TypeIs v "tuple" := by
  cases r with
  | tuple o l rs => exact l.typeIs
theorem Ev.item {o i : Expr} {p : Pos} {ds : List D} {di d : D} (ho : Ev G n env σ o (.list ds)) (hi : Ev G n env σ i di) (hx : IdxD G n (.list ds) di d)
    (hs : ∀ a b, ∃ ops, subscripted i false a b = operate ops (getItem a b) := by intro a b; first | exact ⟨[a, b], rfl⟩ | exact ⟨[b, a], rfl⟩) : Ev G n env σ (.Subscript o i p) d :=
  .sub ho hi hx (fun _ _ _ r => typeIs_list r) slot_list_getitem.lookup hs
theorem Ev.itemT {o i : Expr} {p : Pos} {ds : List D} {di d : D} (ho : Ev G n env σ o (.tuple ds)) (hi : Ev G n env σ i di) (hx : IdxD G n (.tuple ds) di d)
    (hs : ∀ a b, ∃ ops, subscripted i false a b = operate ops (getItem a b) := by intro a b; first | exact ⟨[a, b], rfl⟩ | exact ⟨[b, a], rfl⟩) : Ev G n env σ (.Subscript o i p) d :=
  .sub ho hi hx (fun _ _ _ r => typeIs_tuple r) slot_tuple_getitem.lookup hs
end
end Mine
end
section
open PySem PySem.W PyProof.Rows PySem.Calls
set_option maxRecDepth 100000
namespace Mine
mutual
def D.py : D → PyData
  | .none => .none
  | .bool b => .bool b
  | .int i => .int i
  | .str x => .str x
  | .tuple ds => .tuple (D.pys ds)
  | .list ds => .list (D.pys ds)
  | _ => .dict []
def D.pys : List D → List PyData
  | [] => []
  | d :: ds => D.py d :: D.pys ds
end
mutual
/-- none, ints, texts, and rows of such, to a depth -/
def D.data : Nat → D → Bool
  | _, .none => true
  | _, .bool _ => true
  | _, .int _ => true
  | _, .str x => PyData.strOk x
  | n + 1, .tuple ds => D.datas n ds
  | n + 1, .list ds => D.datas n ds
  | _, _ => false
def D.datas : Nat → List D → Bool
  | _, [] => true
  | n, d :: ds => D.data n d && D.datas n ds
end
mutual
theorem rep_reads {ok : Addr → Prop} {h : Heap} : ∀ {v : Value} {d : D} (n : Nat), Rep ok h v d → D.data n d = true → ∃ as, Reads h v d.py as
  | _, _, _, .none, _ => ⟨_, Reads.none⟩
  | _, _, _, .bool b, _ => ⟨_, Reads.bool b⟩
  | _, _, _, .int i t, _ => ⟨_, Reads.int i t⟩
  | _, _, _, .str x t, _ => ⟨_, Reads.str x t⟩
  | _, _, n, .bytes _ _, hk => by cases n <;> simp [D.data] at hk
  | _, _, n, .raw _, hk => by cases n <;> simp [D.data] at hk
  | _, _, n, .slice _ _ _ _ _ _ _, hk => by cases n <;> simp [D.data] at hk
  | _, _, n, .rng _ _, hk => by cases n <;> simp [D.data] at hk
  | _, _, 0, .tuple _ _ _, hk => by simp [D.data] at hk
  | _, _, 0, .list _ _ _, hk => by simp [D.data] at hk
  | _, _, n + 1, .tuple _ l r, hk => by
    obtain ⟨as, q⟩ := repAll_reads n r (by simpa [D.data] using hk)
    obtain ⟨o, e, c, k, d⟩ := l
    rw [D.py]
    exact ⟨as, Reads.tuple e c d (by simpa using q)⟩
  | _, _, n + 1, .list _ l r, hk => by
    obtain ⟨as, q⟩ := repAll_reads n r (by simpa [D.data] using hk)
    obtain ⟨o, e, c, k, d⟩ := l
    rw [D.py]
    exact ⟨_, Reads.list e c d (by simpa using q)⟩
theorem repAll_reads {ok : Addr → Prop} {h : Heap} : ∀ {vs : List Value} {ds : List D} (n : Nat), RepAll ok h vs ds → D.datas n ds = true → ∃ as, ReadsAll h vs (D.pys ds) as
  | _, _, _, .nil, _ => ⟨_, ReadsAll.nil⟩
  | _, _, n, .cons a r, hk => by
    rw [D.datas, Bool.and_eq_true] at hk
    obtain ⟨as, q⟩ := rep_reads n a hk.1
    obtain ⟨bs, p⟩ := repAll_reads n r hk.2
    rw [D.pys]
    exact ⟨_, ReadsAll.cons q p⟩
end
mutual
theorem data_lay : ∀ (n : Nat) (d : D), D.data n d = true → d.py.canLay0 = true ∧ d.py.depth ≤ n
  | _, .none, _ => by simp [D.py, PyData.canLay0, PyData.depth]
  | _, .bool _, _ => by simp [D.py, PyData.canLay0, PyData.depth]
  | _, .int _, _ => by simp [D.py, PyData.canLay0, PyData.depth]
  | n, .str x, h => by
    have : PyData.strOk x = true := by cases n <;> simpa [D.data] using h
    simp [D.py, PyData.canLay0, PyData.depth, this]
  | n, .bytes _, h => by cases n <;> simp [D.data] at h
  | n, .raw _, h => by cases n <;> simp [D.data] at h
  | n, .slice _ _ _, h => by cases n <;> simp [D.data] at h
  | n, .rng _ _, h => by cases n <;> simp [D.data] at h
  | 0, .tuple _, h => by simp [D.data] at h
  | 0, .list _, h => by simp [D.data] at h
  | n + 1, .tuple ds, h => by
    have q := datas_lay n ds (by simpa [D.data] using h)
    simp only [D.py, PyData.canLay0, PyData.depth, q.1, true_and]
    have := q.2; omega
  | n + 1, .list ds, h => by
    have q := datas_lay n ds (by simpa [D.data] using h)
    simp only [D.py, PyData.canLay0, PyData.depth, q.1, true_and]
    have := q.2; omega
theorem datas_lay : ∀ (n : Nat) (ds : List D), D.datas n ds = true → PyData.canLayAll0 (D.pys ds) = true ∧ PyData.depthAll (D.pys ds) ≤ n
  | _, [], _ => by simp [D.pys, PyData.canLayAll0, PyData.depthAll]
  | n, d :: ds, h => by
    rw [D.datas, Bool.and_eq_true] at h
    have q := data_lay n d h.1
    have p := datas_lay n ds h.2
    simp only [D.pys, PyData.canLayAll0, PyData.depthAll, q.1, p.1, Bool.and_self, true_and]
    have := q.2; have := p.2; omega
end
/-- Python's == -/
def D.eqb (d e : D) : Bool := PyData.eqv d.py e.py
section
variable {G : Gr} {n : Nat} {env : Env} {σ : St}
def D.part : D → Option Int
  | .int i => some i
  | _ => Option.none
def D.isPart : D → Bool
  | .none | .int _ => true
  | _ => false
theorem rep_part {ok : Addr → Prop} {h : Heap} {v : Value} {d : D} (r : Rep ok h v d) (hp : d.isPart = true) : IsPart v d.part := by
  cases r <;> first | exact IsPart.none | exact IsPart.int _ _ | cases hp
/-- the items that a slice takes -/
def pickD {α : Type} (ds : List α) (lo hi st : Option Int) : List α :=
  (sliceRange (sliceBounds lo hi st ds.length).1 (sliceBounds lo hi st ds.length).2.1 (sliceBounds lo hi st ds.length).2.2).filterMap (ds[·]?)
theorem repAll_filterMap {ok : Addr → Prop} {h : Heap} {vs : List Value} {ds : List D} (r : RepAll ok h vs ds) : ∀ js : List Nat, RepAll ok h (js.filterMap (vs[·]?)) (js.filterMap (ds[·]?))
  | [] => .nil
  | j :: js => by
    have ih := repAll_filterMap r js
    rw [List.filterMap_cons, List.filterMap_cons]
    cases hj : ds[j]? with
    | none =>
      have : vs[j]? = none := by
        rw [List.getElem?_eq_none_iff] at hj ⊢; rw [r.length]; exact hj
      rw [this]; exact ih
    | some d =>
      obtain ⟨v, hv, rp⟩ := r.get hj
      rw [hv]; exact .cons rp ih
theorem pick_rep {ok : Addr → Prop} {h : Heap} {vs : List Value} {ds : List D} (r : RepAll ok h vs ds) (lo hi st : Option Int) : RepAll ok h (slicePick vs.toArray lo hi st).toList (pickD ds lo hi st) := by
  unfold slicePick pickD
  rw [List.size_toArray, r.length]
  simpa using repAll_filterMap r _
theorem IdxD.slice {ds : List D} {l u st : D} (hl : l.isPart = true) (hu : u.isPart = true) (hs : st.isPart = true) (h0 : st.part ≠ some 0) (hz : ds.length ≤ sizeLine) :
    IdxD G n (.list ds) (.slice l u st) (.list (pickD ds l.part u.part st.part)) := fun ok A s E vo vi r k f ro ri => by
  cases ri with
  | slice oi ei ci di r1 r2 r3 =>
    cases ro with
    | @list a ws _ o lst rs =>
      refine wpAny_getItem_list_slice lst ⟨_, ei, ci, di⟩ (rep_part r1 hl) (rep_part r2 hu) (rep_part r3 hs) h0 ?_ (by rw [List.size_toArray, rs.length]; exact hz)
      have sp : Stp G.base s { s with heap := s.heap.push { cls := .type "list", data := .seq (slicePick ws.toArray l.part u.part st.part) } } := .push
      exact ⟨sp, .list (f _ fresh_get) ⟨_, Heap.get?_push_size _ rfl, rfl, 0, by simp⟩ ((pick_rep rs _ _ _).stp sp)⟩
end
end Mine
end
section
open PySem PySem.W PyProof.Rows PySem.Calls
set_option maxRecDepth 100000
namespace Mine
section
variable {G : Gr} {n : Nat} {env : Env} {σ : St}
theorem filterMap_run {α : Type} (l : List α) (a k : Nat) : ((List.range k).map (a + ·)).filterMap (l[·]?) = (l.drop a).take k := by
  induction k with
  | zero => simp
  | succ k ih =>
    rw [List.range_succ, List.map_append, List.filterMap_append, ih, List.take_add_one]
    congr 1
    simp only [List.map_cons, List.map_nil, List.filterMap_cons, List.filterMap_nil, List.getElem?_drop]
    cases l[a + k]? <;> rfl
theorem pickD_plain {α : Type} (ds : List α) (lo hi : Option Int) :
    pickD ds lo hi none = (ds.drop (lo.elim 0 (clipAt ds.length))).take (hi.elim ds.length (clipAt ds.length) - lo.elim 0 (clipAt ds.length)) := by
  unfold pickD
  rw [sliceBounds_plain]
  simp only [sliceRange_one, filterMap_run]
theorem pickD_from {α : Type} (ds : List α) (a : Nat) : pickD ds (some (a : Int)) none none = ds.drop a := by
  rw [pickD_plain]
  simp only [Option.elim, clipAt_nat]
  rcases Nat.le_total a ds.length with h | h
  · rw [Nat.min_eq_left h, List.take_of_length_le (by simp)]
  · rw [Nat.min_eq_right h, List.drop_of_length_le (Nat.le_refl _), List.drop_of_length_le h]; simp
theorem pickD_run {α : Type} (ds : List α) (a b : Nat) : pickD ds (some (a : Int)) (some (b : Int)) none = (ds.drop a).take (b - a) := by
  rw [pickD_plain]
  simp only [Option.elim, clipAt_nat]
  rcases Nat.le_total a ds.length with h | h
  · rw [Nat.min_eq_left h]
    rcases Nat.le_total b ds.length with h2 | h2
    · rw [Nat.min_eq_left h2]
    · rw [Nat.min_eq_right h2, List.take_of_length_le (by simp), List.take_of_length_le (by simp; omega)]
  · rw [Nat.min_eq_right h, List.drop_of_length_le (Nat.le_refl _), List.drop_of_length_le h]; simp
theorem CallD.range {m : Int} : CallD G n (.type "range") [.int m] (.rng 0 m) := fun ok A s E vs r k f rs => by
  cases rs with
  | cons a rs =>
    cases rs; cases a
    exact call_range_1 ⟨.push, .rng (f _ fresh_get) (Heap.get?_push_size _ rfl)⟩
def rngList (lo hi : Int) : List D := (List.range (hi - lo).toNat).map fun i => .int (lo + (i : Nat))
theorem IterD.rng {lo hi : Int} (h1 : -(2 ^ 62) ≤ lo) (h2 : lo < 2 ^ 62) (h3 : -(2 ^ 62) ≤ hi) (h4 : hi < 2 ^ 62) : IterD G n (.rng lo hi) (rngList lo hi) := fun ok A s E v target r k f rp => by
  cases rp with
  | rng o hr =>
    refine wpAny_pyIter_range hr (small_one h1 h2 h3 h4) ?_
    have hsz : Builtin.Range.rangeSize lo hi 1 = (((hi - lo).toNat : Nat) : Int) := by rw [rangeSize_one]; split <;> omega
    refine ⟨.push, s.heap.objs.size, _, rfl, fresh_get, by rw [Heap.get?_push_size _ rfl]; rfl, Itr.of_walks (vs := []) (ds' := []) (Walks.range r.handled s.heap.objs.size lo 1 (hi - lo).toNat) (by simp [rngList]) (fun b hb => .inl (List.mem_singleton.mp hb)) ?_ ?_, ⟨?_, .nil⟩⟩
    · intro i h q
      exact ⟨_, "range_iterator", q, rfl, rfl, by decide⟩
    · rintro i v d h hd ⟨t, rfl⟩ _
      simp only [rngList, List.getElem?_map, Option.map_eq_some_iff] at hd
      obtain ⟨j, hj, rfl⟩ := hd
      have : j = i := by
        rw [List.getElem?_range] at hj
        · exact (Option.some.inj hj).symm
        · have := (List.getElem?_eq_some_iff.mp hj).1; simpa using this
      rw [this, Int.mul_one]; exact .int _ _
    · show IsRangeIter _ _ _ _ _
      rw [← hsz]
      have := Heap.get?_push_size s.heap (o := { cls := .type "range_iterator", data := .fields #[rawInt lo, rawInt (Builtin.Range.rangeSize lo hi 1), rawInt 1] }) rfl
      simpa [IsRangeIter] using this
end
end Mine
end
section
open PySem PySem.W PyProof.Rows PySem.Calls
set_option maxRecDepth 100000
namespace Mine
section
variable {G : Gr} {n : Nat} {env : Env} {σ : St} {sc : Scope}
theorem closureFor_is (scope : Scope) (h : ∀ p ∈ scope.names, p.2 = .free → (env.cells.lookup p.1).isSome = true) :
    ∃ cl, closureFor scope env = pure cl ∧ (∀ y c, (y, c) ∈ cl → env.cells.lookup y = some c ∧ (y, NameKind.free) ∈ scope.names) ∧ (∀ p ∈ scope.names, p.2 = .free → cl.lookup p.1 = env.cells.lookup p.1) ∧ cl.map (·.1) = ((scope.names.filter (·.2 == .free)).map (·.1)).reverse := by
  have go : ∀ (f : Str × NameKind → List (Str × Addr) → Sem (ForInStep (List (Str × Addr)))) (hf : ∀ y k cs, f (y, k) cs = if k == NameKind.free then (do let a ← cellOf env y; pure (ForInStep.yield ((y, a) :: cs))) else pure (ForInStep.yield cs))
      (names : List (Str × NameKind)) (acc : List (Str × Addr)), (∀ p ∈ names, p.2 = .free → (env.cells.lookup p.1).isSome = true) → (∀ y c, (y, c) ∈ acc → env.cells.lookup y = some c) →
      ∃ cl, (forIn names acc f) = pure cl ∧
        (∀ y c, (y, c) ∈ cl → (y, c) ∈ acc ∨ (env.cells.lookup y = some c ∧ (y, NameKind.free) ∈ names)) ∧ (∀ q ∈ acc, q ∈ cl) ∧ (∀ p ∈ names, p.2 = .free → ∃ c, (p.1, c) ∈ cl) ∧ cl.map (·.1) = ((names.filter (·.2 == .free)).map (·.1)).reverse ++ acc.map (·.1) := by
    intro f hf names
    induction names with
    | nil => intro acc _ _; exact ⟨acc, by rw [List.forIn_nil], fun y c m => .inl m, fun _ q => q, (fun p hp => nomatch hp), by simp⟩
    | cons x r ih =>
      intro acc hn ha
      obtain ⟨y, k⟩ := x
      rw [List.forIn_cons, hf]
      by_cases hk : k = .free
      · subst hk
        obtain ⟨c, hc⟩ := Option.isSome_iff_exists.mp (hn (y, .free) (.head _) rfl)
        obtain ⟨cl, e, h1, h2, h3, h4⟩ := ih ((y, c) :: acc) (fun p hp => hn p (.tail _ hp)) (fun z d m => by
          rcases List.mem_cons.mp m with q | q
          · cases q; exact hc
          · exact ha z d q)
        refine ⟨cl, ?_, fun z d m => ?_, fun q hq => h2 q (.tail _ hq), fun p hp hfr => ?_, by rw [h4]; simp⟩
        · have : cellOf env y = pure c := by unfold cellOf; rw [hc]
          simp only [beq_self_eq_true, if_true, this, pure_bind]
          exact e
        · rcases h1 z d m with q | q
          · rcases List.mem_cons.mp q with q | q
            · cases q; exact .inr ⟨hc, .head _⟩
            · exact .inl q
          · exact .inr ⟨q.1, .tail _ q.2⟩
        · rcases List.mem_cons.mp hp with q | q
          · subst q; exact ⟨c, h2 _ (.head _)⟩
          · exact h3 p q hfr
      · obtain ⟨cl, e, h1, h2, h3, h4⟩ := ih acc (fun p hp => hn p (.tail _ hp)) ha
        have hb : (k == NameKind.free) = false := by simpa using hk
        refine ⟨cl, ?_, fun z d m => (h1 z d m).imp id fun q => ⟨q.1, .tail _ q.2⟩, h2, fun p hp hfr => ?_, by rw [h4]; simp [hk]⟩
        · simp only [hb, Bool.false_eq_true, if_false, pure_bind]
          exact e
        · rcases List.mem_cons.mp hp with q | q
          · subst q; exact absurd hfr hk
          · exact h3 p q hfr
  have key : ∃ cl, closureFor scope env = pure cl ∧ (∀ y c, (y, c) ∈ cl → (y, c) ∈ ([] : List (Str × Addr)) ∨ (env.cells.lookup y = some c ∧ (y, NameKind.free) ∈ scope.names)) ∧ (∀ p ∈ scope.names, p.2 = .free → ∃ c, (p.1, c) ∈ cl) ∧ cl.map (·.1) = ((scope.names.filter (·.2 == .free)).map (·.1)).reverse := by
    obtain ⟨cl, e, h1, _, h3, h4⟩ := go (fun x cs => match x with
      | (name, kind) => if kind == NameKind.free then (do let a ← cellOf env name; pure (ForInStep.yield ((name, a) :: cs))) else pure (ForInStep.yield cs)) (fun y k cs => rfl) scope.names [] h (fun y c m => nomatch m)
    have e0 : closureFor scope env = (forIn scope.names ([] : List (Str × Addr)) (fun x cs => match x with
      | (name, kind) => if kind == NameKind.free then (do let a ← cellOf env name; pure (ForInStep.yield ((name, a) :: cs))) else pure (ForInStep.yield cs)) >>= fun cs => pure cs) := rfl
    exact ⟨cl, by rw [e0, e]; rfl, h1, h3, by simpa using h4⟩
  obtain ⟨cl, e, h1, h3, h4⟩ := key
  have h1' : ∀ y c, (y, c) ∈ cl → env.cells.lookup y = some c ∧ (y, NameKind.free) ∈ scope.names := fun y c m => (h1 y c m).elim (fun q => nomatch q) id
  refine ⟨cl, e, h1', fun p hp hf => ?_, h4⟩
  · obtain ⟨c, hc⟩ := h3 p hp hf
    have e1 := (h1' _ _ hc).1
    rw [e1]
    -- the first entry under that name says the same
    have : ∀ l : List (Str × Addr), (∀ y c, (y, c) ∈ l → env.cells.lookup y = some c) → (p.1, c) ∈ l → l.lookup p.1 = some c := by
      intro l
      induction l with
      | nil => intro _ m; cases m
      | cons q r ih =>
        intro hl m
        obtain ⟨y, d⟩ := q
        rw [List.lookup_cons]
        cases e3 : p.1 == y with
        | true =>
          have := hl y d (.head _)
          rw [← beq_iff_eq.mp e3, e1] at this; exact this.symm
        | false =>
          rcases List.mem_cons.mp m with q | q
          · cases q; simp at e3
          · exact ih (fun y c m => hl y c (.tail _ m)) q
    exact this cl (fun y c m => (h1' y c m).1) hc
/-- what the frame of a comprehension knows of its names -/
structure CEnv (cenv : Env) (scope : Scope) : Prop where
  kind : ∀ x k, scope.names.lookup x = some k → k ≠ .free → cenv.kindOf x = some k
theorem CEnv.loc {cenv : Env} {scope : Scope} (C : CEnv cenv scope) {x : Str} (h : scope.names.lookup x = some .local) : cenv.kindOf x = some .local := C.kind x _ h (by decide)
theorem CEnv.glob {cenv : Env} {scope : Scope} (C : CEnv cenv scope) {x : Str} (h : scope.names.lookup x = some .globalImplicit) : cenv.kindOf x = some .globalImplicit := C.kind x _ h (by decide)
theorem lookup_relabel {env : Env} : ∀ {names : List (Str × NameKind)} {x : Str} {k : NameKind}, names.lookup x = some k →
    (names.map fun (n, k) => if (k == NameKind.free && env.scope.kind == .function && env.kindOf n == some .cell) then (n, NameKind.cell) else (n, k)).lookup x = some k ∨
    (k = .free ∧ (names.map fun (n, k) => if (k == NameKind.free && env.scope.kind == .function && env.kindOf n == some .cell) then (n, NameKind.cell) else (n, k)).lookup x = some .cell)
  | [], _, _, h => by simp at h
  | (n, k') :: r, x, k, h => by
    have ih := @lookup_relabel env r x k
    rw [List.map_cons]
    cases hx : x == n with
    | true =>
      rw [List.lookup_cons, hx] at h
      cases h
      by_cases hc : (k' == NameKind.free && env.scope.kind == .function && env.kindOf n == some .cell) = true
      · refine .inr ⟨by simp only [Bool.and_eq_true] at hc; exact beq_iff_eq.mp hc.1.1, ?_⟩
        dsimp only; rw [if_pos hc, List.lookup_cons, hx]
      · refine .inl ?_
        dsimp only; rw [if_neg hc, List.lookup_cons, hx]
    | false =>
      rw [List.lookup_cons, hx] at h
      dsimp only at ih ⊢
      by_cases hc : (k' == NameKind.free && env.scope.kind == .function && env.kindOf n == some .cell) = true
      · rw [if_pos hc, List.lookup_cons, hx]; exact ih h
      · rw [if_neg hc, List.lookup_cons, hx]; exact ih h
/-- a comprehension's target takes a value: its own names alone -/
def AssC (G : Gr) (n : Nat) (cenv : Env) (t : Expr) (d : D) (f : St → St) : Prop := ∀ σ ok A s E v, Room n A → G.base.StaysIn s.heap → Inv G.base ok cenv σ s.heap → owned σ = [] → Rep (okO ok σ) s.heap v d →
  wpAny G.M A (assign t cenv v) (fun _ s' => Inv G.base ok cenv (f σ) s'.heap ∧ Mv G.base (· = cenv.locals) s s' ∧ owned (f σ) = []) E s
theorem owned_setS_nil {x : Str} {d : D} (h : owned σ = []) : owned (setS x (.val d) σ) = [] := List.eq_nil_iff_forall_not_mem.mpr fun a m => by have := owned_setS_val m; rw [h] at this; cases this
theorem wpAny_storeL {M : Model} {A : Around} {E : Value → Shared → Prop} {s : Shared} {base : Heap} {x : Str} {v : Value} {Q : Unit → Shared → Prop} (F : Frame env s.heap) (hk : env.kindOf x = some .local)
    (h : ∀ s', Holds env s'.heap x v → (∀ y u, y ≠ x → Holds env s.heap y u → Holds env s'.heap y u) → Frame env s'.heap → Mv base (· = env.locals) s s' → Q () s') : wpAny M A (storeName env x v) Q E s := by
  obtain ⟨m, hn⟩ := F.ns
  refine wpAny_storeName_local hk hn (fun h' hn' hs' => ?_) (by rw [F.kind]; rfl)
  have hL : ∃ o, h'.get? env.locals = some o := let ⟨o, _, _, q, _⟩ := hn'; ⟨o, q⟩
  have keep : ∀ b, b ≠ env.locals → h'.get? b = s.heap.get? b := fun b hb => hs'.2 b hb
  refine h _ (.inl ⟨hk, _, hn', by simp⟩) (fun y u hy q => ?_) ⟨F.kind, ⟨_, hn'⟩, fun z c l => ?_, F.apart, F.away, F.glob, F.blt⟩ ⟨fun b o w e => ⟨o, (keep b w).trans e, rfl, rfl, fun _ => rfl⟩, fun b e => ?_, rfl, .refl⟩
  · rcases q with ⟨k, m', n', r⟩ | ⟨k, c, l, r⟩
    · refine .inl ⟨k, _, hn', ?_⟩
      have : m' y = m y := by
        obtain ⟨o, es, ep, q1, q2, _, q3⟩ := n'
        obtain ⟨o₂, es₂, ep₂, p1, p2, _, p3⟩ := hn
        rw [q1] at p1; cases p1; rw [q2] at p2; cases p2
        rw [← q3, ← p3]
      simp [hy, ← this, r]
    · exact .inr ⟨k, c, l, r.sameBut hs' (F.away y c l)⟩
  · obtain ⟨u, q⟩ := F.cells z c l
    exact ⟨u, q.sameBut hs' (F.away z c l)⟩
  · by_cases hb : b = env.locals
    · obtain ⟨o, q⟩ := hL
      have e' : h'.get? b = none := e
      rw [hb, q] at e'; cases e'
    · rw [← keep b hb]; exact e
theorem AssC.name {cenv : Env} {x : Str} {p : Pos} {d : D} (hk : cenv.kindOf x = some .local) : AssC G n cenv (.Name x p) d (setS x (.val d)) := fun σ ok A s E v r k i ho rp =>
  wpAny_assign_Name (wpAny_storeL (base := G.base) i.frame hk fun s' hv hot F m => ⟨i.set_val (m.weak fun _ w => .inl w) F hv hot rp, m, owned_setS_nil ho⟩)
/-- the names that a comprehension takes over -/
def Cap (env : Env) (σ : St) (scope : Scope) : St → Prop
  | [] => True
  | (x, .val d) :: r => (σ.lookup x = some (.val d) ∧ scope.names.lookup x = some .free ∧ env.kindOf x = some .cell) ∧ Cap env σ scope r
  | (_, .own _ _) :: _ => False
theorem Cap.get {scope : Scope} {x : Str} {d : D} : ∀ {σc : St}, Cap env σ scope σc → σc.lookup x = some (.val d) → σ.lookup x = some (.val d) ∧ scope.names.lookup x = some .free ∧ env.kindOf x = some .cell
  | (y, .val e) :: r, h, l => by
    rw [List.lookup_cons] at l
    cases q : x == y with
    | true => rw [q] at l; cases l; rw [beq_iff_eq.mp q]; exact h.1
    | false => rw [q] at l; exact Cap.get h.2 l
theorem Cap.owned {scope : Scope} : ∀ {σc : St}, Cap env σ scope σc → Mine.owned σc = []
  | [], _ => rfl
  | (y, .val e) :: r, h => Cap.owned (σc := r) h.2
  | (y, .own _ _) :: r, h => h.elim
theorem Cap.noOwn {scope : Scope} {x : Str} {a : Addr} {es : List D} : ∀ {σc : St}, Cap env σ scope σc → σc.lookup x ≠ some (.own a es)
  | [], _ => nofun
  | (y, .val e) :: r, h => by
    rw [List.lookup_cons]
    cases x == y with
    | true => exact nofun
    | false => exact Cap.noOwn h.2
  | (y, .own _ _) :: r, h => h.elim
end
end Mine
end
section
open PySem PySem.W PyProof.Rows PySem.Calls
set_option maxRecDepth 100000
namespace Mine
section
variable {G : Gr} {n : Nat} {env : Env} {σ : St} {sc : Scope}
/-- objects change that the frame's state does not lean on -/
theorem Inv.mvW {base : Heap} {ok : Addr → Prop} {W : Addr → Prop} {s s' : Shared} (i : Inv base ok env σ s.heap) (m : Mv base W s s') (hf : ∀ a, W a → ¬ Wr env σ a) (hn : ∀ a, W a → okO ok σ a → ¬ IsNode s.heap a) : Inv base ok env σ s'.heap := by
  have nf : ∀ a, okO ok σ a → IsNode s.heap a → ¬ W a := fun a o q z => hn a z o q
  have hh : ∀ y v, Holds env s.heap y v → Holds env s'.heap y v := fun y v q => by
    rcases q with ⟨k, mm, hns, r⟩ | ⟨k, c, hc, r⟩
    · obtain ⟨o, es, ep, e, d, rr⟩ := hns
      obtain ⟨o', e', _, d', _⟩ := m.ext _ o (fun z => hf _ z (.inl (.inl rfl))) e
      exact .inl ⟨k, mm, ⟨o', es, ep, e', d'.trans d, rr⟩, r⟩
    · obtain ⟨o, e, d⟩ := r
      obtain ⟨o', e', _, d', _⟩ := m.ext _ o (fun z => hf _ z (.inl (.inr ⟨y, hc⟩))) e
      exact .inr ⟨k, c, hc, o', e', d'.trans d⟩
  refine ⟨⟨i.frame.kind, ?_, fun y c q => ?_, i.frame.apart, i.frame.away, i.frame.glob, i.frame.blt⟩, i.off, fun b e => i.fresh b (m.dom b e), fun y d q => ?_, fun y b es q => ?_, fun b w => ?_, i.once⟩
  · obtain ⟨mm, o, es, ep, e, d, rr⟩ := i.frame.ns
    obtain ⟨o', e', _, d', _⟩ := m.ext _ o (fun z => hf _ z (.inl (.inl rfl))) e
    exact ⟨mm, o', es, ep, e', d'.trans d, rr⟩
  · obtain ⟨v, o, e, d⟩ := i.frame.cells y c q
    obtain ⟨o', e', _, d', _⟩ := m.ext _ o (fun z => hf _ z (.inl (.inr ⟨y, q⟩))) e
    exact ⟨v, o', e', d'.trans d⟩
  · obtain ⟨u, p, r⟩ := i.vals y d q
    exact ⟨u, hh y u p, r.extBut m.ext nf fun _ w _ => w⟩
  · obtain ⟨p, o, vs, lv, rs⟩ := i.owns y b es q
    exact ⟨hh y _ p, o, vs, m.ext.own (fun z => hf b z (.inr (owned_of_lookup q))) lv, rs.extBut m.ext nf fun _ w _ => w⟩
  · obtain ⟨vs, lv⟩ := i.there b w
    exact ⟨vs, m.ext.own (fun z => hf b z (.inr w)) lv⟩
/-- the tests of a comprehension -/
def Tests (G : Gr) (n : Nat) (cenv : Env) (σ : St) (ifs : List Expr) (b : Bool) : Prop := ∀ ok A s E, Room n A → G.base.StaysIn s.heap → Inv G.base ok cenv σ s.heap →
  wpAny G.M A (forIn ifs true fun c r => if r = true then do let ok ← isTrue c cenv (eval c cenv); pure (ForInStep.yield ok) else pure (ForInStep.yield r)) (fun r s' => Stp G.base s s' ∧ r = b) E s
theorem Tests.nil {cenv : Env} : Tests G n cenv σ [] true := fun _ _ _ _ _ _ _ => wpAny_tests_nil ⟨.refl, rfl⟩
theorem compLoop_any {prog : Program} {w : World} {A : Around} {R : Result → Shared → Prop} {s : Shared} {elt target iter : Expr} {ifs : List Expr} {scope : Scope} {pos : Pos} {it acc : Value} {env : Env} (I : Nat → Shared → Prop)
    (turn : ∀ n s, I n s → ∀ E, (∀ e s', False → E e s') → wpAny (model prog w) A (pyNext it) (fun r s₁ => match r with
      | none => R (.ok .next) s₁
      | some v => wpAny (model prog w) A (letOwnedTupleGo target it v) (fun _ s₁' => wpAny (model prog w) A (assign target env v) (fun _ s₂ =>
          wpAny (model prog w) A (forIn ifs true fun c r => if r = true then do let ok ← isTrue c env (eval c env); pure (ForInStep.yield ok) else pure (ForInStep.yield r)) (fun ok s₃ =>
            if ok = true then wpAny (model prog w) A (eval elt env) (fun x s₄ =>
              wpAny (model prog w) A (call (.builtin "list.append") [acc, x]) (fun _ s₅ => ∃ m, m < n ∧ I m s₅) E s₄) E s₃
            else ∃ m, m < n ∧ I m s₃) E s₂) E s₁') E s₁) E s)
    (n : Nat) (h : I n s) : codeAny (model prog w) A (.compLoop (.ListComp elt [⟨target, iter, ifs, 0⟩] scope pos) 0 it acc env) R s := by
  refine codeAny_loop rfl I (fun n s hI => ?_) n h
  show wpAny _ A ((compTurn (.ListComp elt [⟨target, iter, ifs, 0⟩] scope pos) 0 it acc env).onRaise (fun x => do noteFrame x env; theTreesLotGoes x)) _ _ s
  refine wpAny_noted ?_
  rw [compTurn_list]
  refine wpAny_bind (wpAny_standAt (wpAny_bind (wpAny_mono (turn n s hI _ (fun _ _ f => f.elim)) (fun r s₁ h₁ => ?_) fun _ _ h' => h')))
  cases r with
  | none => exact wpAny_pure h₁
  | some v =>
    refine wpAny_bind (wpAny_mono h₁ (fun _ s₁' h₁' => ?_) fun _ _ h' => h')
    refine wpAny_bind (wpAny_mono h₁' (fun _ s₂ h₂ => wpAny_bind (wpAny_mono h₂ (fun ok s₃ h₃ => ?_) fun _ _ h' => h')) fun _ _ h' => h')
    cases ok with
    | false => exact wpAny_pure ⟨rfl, h₃⟩
    | true =>
      exact wpAny_bind (wpAny_bind (wpAny_mono h₃ (fun x s₄ h₄ => wpAny_bind (wpAny_mono h₄ (fun _ s₅ h₅ => wpAny_pure (wpAny_pure ⟨rfl, h₅⟩)) fun _ _ h' => h')) fun _ _ h' => h'))
inductive CpI (G : Gr) (ok : Addr → Prop) (cenv : Env) (σc : St) (Sx : Nat → Shared → Prop) (L : Addr) (ds : List D) (keep : D → Bool) (res : D → D) (s : Shared) (m : Nat) (s' : Shared) : Prop
  | mk (j : Nat) (ws : List Value) (hj : j ≤ ds.length) (hm : m = ds.length + 1 - j) (hSx : Sx j s') (hown : OwnL s'.heap L ws) (hrep : RepAll ok s'.heap ws (((ds.take j).filter keep).map res))
    (inv : Inv G.base ok cenv σc s'.heap) (st : Stp G.base s s') (hk : G.base.StaysIn s'.heap) : CpI G ok cenv σc Sx L ds keep res s m s'
theorem comp_core {elt target iter : Expr} {ifs : List Expr} {scope : Scope} {pos ipos : Pos} {ds : List D} {σc : St} {f : D → St → St} {keep : D → Bool} {res : D → D} {use : Option (Value → Sem Unit)} {Q : Value → Shared → Prop}
    (FE : FEnv env sc) (hfree : (scope.names.all fun p => p.2 != .free || sc.names.lookup p.1 == some .cell) = true) (hnd : (scope.names.map (·.1)).Nodup) (hcell : ∀ y ∈ scope.names, y.2 ≠ .cell) (hkind : scope.kind = .function)
    (hcap : Cap env σ scope σc) (hi : EvI G n env σ iter target ds) (hsub : ∀ d ∈ ds, Sub σc (f d σc))
    (hturn : ∀ cenv, CEnv cenv scope → ∀ d ∈ ds, AssC G n cenv target d (f d) ∧ Tests G n cenv (f d σc) ifs (keep d) ∧ (keep d = true → Ev G n cenv (f d σc) elt (res d)))
    (hz : ds.length < sizeLine) (hs : ∀ x, foldedSetIterable iter env x = pure x)
    {ok : Addr → Prop} {A : Around} {s : Shared} {E : Value → Shared → Prop} (r : Room n A) (k : G.base.StaysIn s.heap) (i : Inv G.base ok env σ s.heap)
    (K : ∀ L C ws s' m, Stp G.base s s' → s.heap.get? L = none → s.heap.get? C = none → L ≠ C → OwnL s'.heap L ws → RepAll (fun b => okO ok σ b ∧ b ≠ L) s'.heap ws ((ds.filter keep).map res) → s'.heap.Ns C m → compPost G.M A E use Q (.ref L) C (.ok .next) s') :
    wpAny G.M A (comprehension (.ListComp elt [⟨target, iter, ifs, 0⟩] scope pos) scope env ipos (newList []) false (eval iter env) use) Q E s := by
  have hcells : ∀ p ∈ scope.names, p.2 = .free → (env.cells.lookup p.1).isSome = true := fun p hp hf => by
    have := List.all_eq_true.mp hfree p hp
    rw [hf] at this
    exact FE.cells p.1 (by simpa using this)
  obtain ⟨cl, hclos, hcl1, hcl2, hcl3⟩ := closureFor_is (env := env) scope hcells
  have hnames : ∀ x ∈ scope.names, x.2 = .local → scope.names.lookup x.1 = some .local := fun x hx hl => by
    have : ∀ l : List (Str × NameKind), (l.map (·.1)).Nodup → x ∈ l → l.lookup x.1 = some x.2 := by
      intro l
      induction l with
      | nil => intro _ m; cases m
      | cons y t ih =>
        intro nd m
        obtain ⟨y, ky⟩ := y
        rw [List.map_cons, List.nodup_cons] at nd
        rw [List.lookup_cons]
        rcases List.mem_cons.mp m with q | q
        · subst q; simp
        · cases e : x.1 == y with
          | true => exact absurd (List.mem_map.mpr ⟨x, q, beq_iff_eq.mp e⟩) nd.1
          | false => exact ih nd.2 q
    rw [this scope.names hnd hx, hl]
  refine wpAny_comprehension_free (cl := cl) (e := .ListComp elt [⟨target, iter, ifs, 0⟩] scope pos) rfl hs hclos hkind hnames (wpAny_mono (hi ok A s E r k i) (fun x s₁ p₁ => wpAny_mono p₁ (fun it s₂ p₂ => ?_) fun _ _ x => x) fun _ _ x => x)
  obtain ⟨st, I, fp, wr, wg, Sx, rfl, W, hst, hfp, hwr, hwg⟩ := p₂
  have i₂ := i.ext st.ext
  have k₂ := st.ext.base k
  refine wpAny_newObj_type (wpAny_newFunctionEnv hcell (by intro y hy; simp at hy) (fun h₁ hns₁ hsb₁ => ?_) hkind)
  dsimp only at hns₁ hsb₁ ⊢
  -- the new list and the new namespace
  generalize hH : s₂.heap.push { cls := .type "list", dict := none, data := .seq ([] : List Value).toArray } = H at hns₁ hsb₁ ⊢
  generalize hL : s₂.heap.objs.size = L
  generalize hC : H.objs.size = C at hns₁ hsb₁
  have hCsz : C = L + 1 := by rw [← hC, ← hH, Heap.size_push, hL]
  have hLn : s₂.heap.get? L = none := by rw [← hL]; exact fresh_get
  have hCn : s₂.heap.get? C = none := by
    cases q : s₂.heap.get? C with
    | none => rfl
    | some o => have := Heap.lt_size q; rw [hL, hCsz] at this; exact absurd this (Nat.not_lt.mpr (Nat.le_succ L))
  have hLC : L ≠ C := by rw [hCsz]; exact Nat.ne_of_lt (Nat.lt_succ_self _)
  have old : ∀ b o, s₂.heap.get? b = some o → h₁.get? b = some o := fun b o e => hsb₁.extBut b o (fun q => by rw [q, hCn] at e; cases e) (Heap.get?_push_of_some _ (hH ▸ Heap.get?_push_of_some _ e))
  have hLo : OwnL h₁ L [] := ⟨0, hsb₁.extBut _ _ hLC (Heap.get?_push_of_some _ (hH ▸ hL ▸ Heap.get?_push_size _ rfl))⟩
  generalize hs3 : ({ s₂ with heap := h₁, toks := s₂.toks + ([] : List (Str × Value)).length } : Shared) = s₃
  have hs3' : s₃ = { s₂ with heap := h₁, toks := s₂.toks + ([] : List (Str × Value)).length } := hs3.symm
  have st₃ : Stp G.base s₂ s₃ := by rw [hs3']; exact .heap old
  have hh3 : s₃.heap = h₁ := by rw [hs3']
  show codeAny G.M A (.compStart (.ListComp elt [⟨target, iter, ifs, 0⟩] scope pos) 0 (.ref I) (.ref L) (compEnvC scope cl C env)) (compPost G.M A E use Q (.ref L) C) s₃
  generalize hce' : compEnvC scope cl C env = cenv
  replace hce' := hce'.symm
  have hcloc : cenv.locals = C := by rw [hce']; rfl
  have hccells : cenv.cells = cl := by rw [hce']; rfl
  have CE : CEnv cenv scope := ⟨fun x kd hx hne => by
    rw [hce']
    rcases lookup_relabel (env := env) hx with q | q
    · exact q
    · exact absurd q.1 hne⟩
  have hfrc : ∀ a, FrW cenv a → a = C ∨ FrW env a := fun a w => by
    rcases w with w | ⟨x, w⟩
    · exact .inl (w.trans hcloc)
    · rw [hccells] at w
      exact .inr (.inr ⟨x, (hcl1 _ _ (mem_of_lookup w)).1⟩)
  have hokin : FreshOk (fun b => okO ok σ b ∧ b ≠ L) s₃.heap := fun b e => ⟨(i₂.ext st₃.ext).freshO b e, fun q => by
    have := hLo.some; rw [← hh3, ← q, e] at this; cases this⟩
  have hbase : ∀ a, s₂.heap.get? a = none → G.base.get? a = none := fun a e => by
    cases q : G.base.get? a with
    | none => rfl
    | some o => rw [k₂ a o q] at e; cases e
  have oc := hcap.owned
  have hwrc : ∀ a, Wr cenv σc a → a = C ∨ FrW env a := fun a w => by
    rcases w with w | w
    · exact hfrc a w
    · rw [oc] at w; cases w
  have inv₃ : Inv G.base (fun b => okO ok σ b ∧ b ≠ L) cenv σc s₃.heap := by
    refine ⟨⟨by rw [hce']; exact hkind, ⟨_, by rw [hcloc, hh3]; exact hns₁⟩, fun x c l => ?_, ?_, fun x c l => ?_, by rw [hce']; exact i.frame.glob, by rw [hce']; exact i.frame.blt⟩, fun a w => ?_, hokin, fun x d l => ?_, fun x a es l => absurd l hcap.noOwn, fun a w => (by rw [oc] at w; cases w), (by rw [oc]; exact List.nodup_nil)⟩
    · rw [hccells] at l
      obtain ⟨v, q⟩ := i₂.frame.cells x c (hcl1 _ _ (mem_of_lookup l)).1
      exact ⟨v, st₃.ext.cell q⟩
    · rw [hccells]
      -- different names, different cells
      have : ∀ l : List (Str × Addr), (∀ y c, (y, c) ∈ l → env.cells.lookup y = some c) → (l.map (·.1)).Nodup → l.Pairwise fun x y => x.2 ≠ y.2 := by
        intro l
        induction l with
        | nil => intro _ _; exact List.Pairwise.nil
        | cons q t ih =>
          intro hl nd
          rw [List.map_cons, List.nodup_cons] at nd
          refine List.pairwise_cons.mpr ⟨fun p hp e => nd.1 (List.mem_map.mpr ⟨p, hp, ?_⟩), ih (fun y c m => hl y c (.tail _ m)) nd.2⟩
          exact (cells_inj i.frame.apart (hl q.1 q.2 (.head _)) (e ▸ hl p.1 p.2 (.tail _ hp))).symm
      refine this cl (fun y c m => (hcl1 y c m).1) ?_
      rw [hcl3]
      exact List.pairwise_reverse.mpr ((hnd.sublist (List.filter_sublist.map _)).imp fun q e => q e.symm)
    · rw [hccells] at l
      rw [hcloc]
      intro e
      obtain ⟨v, o, q, _⟩ := i₂.frame.cells x c (hcl1 _ _ (mem_of_lookup l)).1
      rw [e, hCn] at q; cases q
    · rcases hwrc a w with q | q
      · rw [q]; exact hbase C hCn
      · exact i.off a (.inl q)
    · obtain ⟨q1, q2, q3⟩ := hcap.get l
      obtain ⟨v, hv, rp⟩ := i₂.vals x d q1
      refine ⟨v, ?_, rp.ext st₃.ext fun b w z => ⟨⟨w, fun e => by rw [e, hLn] at z; cases z⟩, by rw [oc]; simp⟩⟩
      rcases hv with ⟨kd, _⟩ | ⟨_, c, hc, hv⟩
      · rw [q3] at kd; cases kd
      · refine .inr ⟨?_, c, ?_, st₃.ext.cell hv⟩
        · rw [hce']
          rcases lookup_relabel (env := env) q2 with q | q
          · exact .inr q
          · exact .inl q.2
        · rw [hccells, hcl2 _ (mem_of_lookup q2) rfl]; exact hc
  have loop : codeAny G.M A (.compLoop (.ListComp elt [⟨target, iter, ifs, 0⟩] scope pos) 0 (.ref I) (.ref L) cenv) (compPost G.M A E use Q (.ref L) C) s₃ := by
    have hfpL : ∀ a, fp a → a ≠ L := fun a q e => by have := (hfp a q).1; rw [e, hLn] at this; cases this
    have hfpC : ∀ a, fp a → a ≠ C := fun a q e => by have := (hfp a q).1; rw [e, hCn] at this; cases this
    have hok0 : ∀ a, (okO ok σ a ∧ (s₂.heap.get? a).isSome = true) → okO ok σ a ∧ a ≠ L := fun a q => ⟨q.1, fun e => by have := q.2; rw [e, hLn] at this; cases this⟩
    have hok0C : ∀ a, (okO ok σ a ∧ (s₂.heap.get? a).isSome = true) → a ≠ C := fun a q e => by have := q.2; rw [e, hCn] at this; cases this
    have hwrw : ∀ a, wr a → ¬ Wr cenv σc a := fun a q w => by
      rcases hwrc a w with z | z
      · exact hfpC a (hwr a q).2 z
      · exact (hfp a (hwr a q).2).2 (.inl z)
    have hLw : ¬ Wr cenv σc L := fun w => by
      rcases hwrc L w with z | z
      · exact hLC z
      · rcases z with z | ⟨x, z⟩
        · obtain ⟨m, o, _, _, q, _⟩ := i₂.frame.ns; rw [← z, hLn] at q; cases q
        · obtain ⟨v, o, q, _⟩ := i₂.frame.cells x L z; rw [hLn] at q; cases q
    have hsL : s.heap.get? L = none := st.ext.none hLn
    have hsC : s.heap.get? C = none := st.ext.none hCn
    refine compLoop_any (CpI G (fun b => okO ok σ b ∧ b ≠ L) cenv σc Sx L ds keep res s) ?_ (ds.length + 1)
      ⟨0, [], Nat.zero_le _, rfl, W.frame 0 s₂ s₃ (fun _ => False) hst st₃.mv (fun _ _ z => z) (fun _ _ _ z => z), by rw [hh3]; exact hLo, .nil, inv₃, st.trans st₃, st₃.ext.base k₂⟩
    rintro m s' ⟨j, ws, hj, rfl, hSx, hown, hrep, hinv, hstp, hk⟩ E' _
    have hnode : ∀ {P : Addr → Prop} a, P a → IsNode s'.heap a → ¬ wr a := fun a _ nd z => (W.node j s' a hSx z).1 nd
    by_cases hlt : j < ds.length
    · have hd : ds[j]? = some ds[j] := List.getElem?_eq_getElem hlt
      have hdm : ds[j] ∈ ds := List.getElem_mem hlt
      obtain ⟨hass, htest, helt⟩ := hturn cenv CE ds[j] hdm
      refine wpAny_mono (W.item j ds[j] s' E' (fun b => okO ok σ b ∧ b ≠ L) hd hSx hk hok0 hinv.fresh) (fun r' s₄ q => ?_) fun _ _ x => x
      obtain ⟨v, rfl, q⟩ := q
      refine wpAny_mono q (fun _ s₅ q => ?_) fun _ _ x => x
      obtain ⟨rp, hSx₅, mi⟩ := q
      have inv₅ := hinv.mvI mi hwrw (fun a w => (W.node j s' a hSx w).1) fun b w => ⟨i.freshO b (hwr b w).1, hfpL b (hwr b w).2⟩
      have st₅ : Stp G.base s s₅ := (MvI.after (hstp.mv (W := fun _ => False)) mi (fun a w => (hwr a w).1) hwg).stp fun _ z => z.elim
      have own₅ : OwnL s₅.heap L ws := mi.ext.own (fun z => hfpL L (hwr L z).2 rfl) hown
      have rep₅ : RepAll (fun b => okO ok σ b ∧ b ≠ L) s₅.heap ws _ := hrep.extBut mi.ext hnode fun _ q _ => q
      refine wpAny_mono (hass σc _ A s₅ E' v r (st₅.ext.base k) inv₅ oc (rp.weak fun b q => ⟨q, by rw [oc]; simp⟩)) (fun _ s₆ q => ?_) fun _ _ x => x
      obtain ⟨inv₆, mv₆, ow₆⟩ := q
      rw [hcloc] at mv₆
      have st₆ : Stp G.base s s₆ := ((st₅.mv (W := fun _ => False)).trans (mv₆) fun p w => .inr (w ▸ hsC)).stp fun _ z => z.elim
      have own₆ : OwnL s₆.heap L ws := mv₆.ext.own hLC own₅
      have rep₆ : RepAll (fun b => okO ok σ b ∧ b ≠ L) s₆.heap ws _ := rep₅.extBut mv₆.ext (fun a _ nd z => node_not_frame inv₅.frame nd (.inl (z.trans hcloc.symm))) fun _ q _ => q
      have hSx₆ : Sx (j + 1) s₆ := W.frame (j + 1) s₅ s₆ _ hSx₅ mv₆ (fun a q z => hfpC a q z) (fun a q _ z => hok0C a q z)
      refine wpAny_mono (htest _ A s₆ E' r (st₆.ext.base k) inv₆) (fun ok' s₇ q => ?_) fun _ _ x => x
      obtain ⟨st₇, rfl⟩ := q
      have inv₇ := inv₆.ext st₇.ext
      have own₇ := st₇.ext.own own₆
      have rep₇ := rep₆.stp st₇
      have hSx₇ : Sx (j + 1) s₇ := W.frame (j + 1) s₆ s₇ (fun _ => False) hSx₆ st₇.mv (fun _ _ z => z) (fun _ _ _ z => z)
      have st₇' := st₆.trans st₇
      have hns : (owned σc).Nodup := by rw [oc]; exact List.nodup_nil
      have htake : ds.take (j + 1) = ds.take j ++ [ds[j]] := by rw [List.take_add_one, hd]; rfl
      split
      · rename_i hkp
        refine wpAny_mono (helt hkp _ A s₇ E' r (st₇'.ext.base k) inv₇) (fun v' s₈ q => ?_) fun _ _ x => x
        obtain ⟨st₈, rp₈⟩ := q
        have st₈' := st₇'.trans st₈
        obtain ⟨nn, hLe⟩ := st₈.ext.own own₇
        have rep₈ := rep₇.stp st₈
        have hsz : ws.length ≤ ds.length := by
          rw [rep₈.length, List.length_map]
          exact Nat.le_trans (List.length_filter_le _ _) (by rw [List.length_take]; exact Nat.min_le_right _ _)
        refine append_at (hsz := by rw [List.size_toArray]; exact Nat.le_of_lt (Nat.lt_of_le_of_lt hsz hz)) hLe fun h' hs' hl' => ?_
        have mv₉ : Mv G.base (· = L) s₈ { s₈ with heap := h' } := ⟨fun b o w e => ⟨o, (hs'.2 b w).trans e, rfl, rfl, fun _ => rfl⟩, fun b e => (by
          by_cases hb : b = L
          · have e' : h'.get? b = none := e
            rw [hb, hl'] at e'; cases e'
          · rw [← hs'.2 b hb]; exact e), rfl, .refl⟩
        have st₉ : Stp G.base s { s₈ with heap := h' } := ((st₈'.mv (W := fun _ => False)).trans mv₉ fun p w => .inr (w ▸ hsL)).stp fun _ z => z.elim
        have hSx₈ : Sx (j + 1) s₈ := W.frame (j + 1) s₇ s₈ (fun _ => False) hSx₇ st₈.mv (fun _ _ z => z) (fun _ _ _ z => z)
        refine ⟨ds.length + 1 - (j + 1), turn_lt hlt, j + 1, ws ++ [v'], hlt, rfl, W.frame (j + 1) s₈ _ _ hSx₈ mv₉ (fun a q z => hfpL a q z) (fun a q _ z => (hok0 a q).2 z), ⟨nn + 1, by rw [hl']; simp⟩, ?_, ?_, st₉, st₉.ext.base k⟩
        · rw [htake, List.filter_append, List.map_append]
          have e1 : [ds[j]].filter keep = [ds[j]] := by simp [hkp]
          rw [e1]
          exact (rep₈.extBut mv₉.ext (fun a q _ z => q.2 z) fun _ q _ => q).append (.cons ((rp₈.weak fun b q => q.1).extBut mv₉.ext (fun a q _ z => q.2 z) fun _ q _ => q) .nil)
        · have inv₈ := (inv₇.ext st₈.ext).sub (hsub _ hdm) hns
          exact inv₈.mvW mv₉ (fun a z w => hLw (z ▸ w)) (fun a z o _ => o.1.2 z)
      · rename_i hkp
        refine ⟨ds.length + 1 - (j + 1), turn_lt hlt, j + 1, ws, hlt, rfl, hSx₇, own₇, ?_, inv₇.sub (hsub _ hdm) hns, st₇', st₇'.ext.base k⟩
        rw [htake, List.filter_append, List.map_append]
        have e1 : [ds[j]].filter keep = [] := by simp [hkp]
        rw [e1]; simpa using rep₇
    · have hjl : j = ds.length := Nat.le_antisymm hj (Nat.not_lt.mp hlt)
      subst hjl
      refine wpAny_mono (W.done s' _ hSx hk) (fun r' s₄ q => ?_) fun _ _ x => x
      obtain ⟨rfl, mi⟩ := q
      have inv₄ := hinv.mvI mi hwrw (fun a w => (W.node _ s' a hSx w).1) fun b w => ⟨i.freshO b (hwr b w).1, hfpL b (hwr b w).2⟩
      have st₄ : Stp G.base s s₄ := (MvI.after (hstp.mv (W := fun _ => False)) mi (fun a w => (hwr a w).1) hwg).stp fun _ z => z.elim
      obtain ⟨mm, hmm⟩ := inv₄.frame.ns
      rw [hcloc] at hmm
      rw [List.take_length] at hrep
      exact K L C ws s₄ mm st₄ hsL hsC hLC (mi.ext.own (fun z => hfpL L (hwr L z).2 rfl) hown) (hrep.extBut mi.ext hnode fun _ q _ => q) hmm
  refine codeAny_compStart_list loop (W.self 0 s₃ _ _ (W.frame 0 s₂ s₃ (fun _ => False) hst st₃.mv (fun _ _ z => z) (fun _ _ _ z => z)) loop)
end
end Mine
end
section
open PySem PySem.W PyProof.Rows PySem.Calls
set_option maxRecDepth 100000
namespace Mine
section
variable {G : Gr} {n : Nat} {env : Env} {σ : St} {sc : Scope}
theorem ns_not_node {h : Heap} {a : Addr} {m : Str → Option Value} (n : h.Ns a m) : ¬ IsNode h a := fun q => by
  obtain ⟨o, es, ep, q1, d, _⟩ := n
  cases q with
  | list l => obtain ⟨o', q', _, k, d'⟩ := l; rw [q1] at q'; cases q'; rw [d] at d'; cases d'
  | tup l => obtain ⟨o', q', _, k, d'⟩ := l; rw [q1] at q'; cases q'; rw [d] at d'; cases d'
  | slice q' _ d' => rw [q1] at q'; cases q'; rw [d] at d'; cases d'
  | rng q' => unfold IsRange at q'; rw [q1] at q'; cases q'; cases d
theorem sameBut_ext {base : Heap} {C : Addr} {h h' : Heap} (hs : Heap.SameBut C h h') : ExtBut base (· = C) h h' := fun b o w e => ⟨o, (hs.2 b w).trans e, rfl, rfl, fun _ => rfl⟩
theorem Stp.forget {base : Heap} {C : Addr} {s s₁ : Shared} {h' : Heap} (st : Stp base s s₁) (hC : s.heap.get? C = none) (hs : Heap.SameBut C s₁.heap h') : Stp base s { s₁ with heap := h' } := by
  refine ⟨fun b o e => ?_, st.os, st.gens⟩
  obtain ⟨o', e', c', d', k'⟩ := st.ext b o e
  have hb : b ≠ C := fun q => by rw [q, hC] at e; cases e
  exact ⟨o', (hs.2 b hb).trans e', c', d', k'⟩
theorem Inv.butW {base : Heap} {ok : Addr → Prop} {W : Addr → Prop} {h h' : Heap} (i : Inv base ok env σ h) (m : ExtBut base W h h') (fr : FreshOk ok h') (hf : ∀ a, W a → ¬ Wr env σ a) (hn : ∀ a, W a → okO ok σ a → ¬ IsNode h a) : Inv base ok env σ h' := by
  have nf : ∀ a, okO ok σ a → IsNode h a → ¬ W a := fun a o q z => hn a z o q
  have hh : ∀ y v, Holds env h y v → Holds env h' y v := fun y v q => by
    rcases q with ⟨k, mm, hns, r⟩ | ⟨k, c, hc, r⟩
    · obtain ⟨o, es, ep, e, d, rr⟩ := hns
      obtain ⟨o', e', _, d', _⟩ := m _ o (fun z => hf _ z (.inl (.inl rfl))) e
      exact .inl ⟨k, mm, ⟨o', es, ep, e', d'.trans d, rr⟩, r⟩
    · obtain ⟨o, e, d⟩ := r
      obtain ⟨o', e', _, d', _⟩ := m _ o (fun z => hf _ z (.inl (.inr ⟨y, hc⟩))) e
      exact .inr ⟨k, c, hc, o', e', d'.trans d⟩
  refine ⟨⟨i.frame.kind, ?_, fun y c q => ?_, i.frame.apart, i.frame.away, i.frame.glob, i.frame.blt⟩, i.off, fr, fun y d q => ?_, fun y b es q => ?_, fun b w => ?_, i.once⟩
  · obtain ⟨mm, o, es, ep, e, d, rr⟩ := i.frame.ns
    obtain ⟨o', e', _, d', _⟩ := m _ o (fun z => hf _ z (.inl (.inl rfl))) e
    exact ⟨mm, o', es, ep, e', d'.trans d, rr⟩
  · obtain ⟨v, o, e, d⟩ := i.frame.cells y c q
    obtain ⟨o', e', _, d', _⟩ := m _ o (fun z => hf _ z (.inl (.inr ⟨y, q⟩))) e
    exact ⟨v, o', e', d'.trans d⟩
  · obtain ⟨u, p, r⟩ := i.vals y d q
    exact ⟨u, hh y u p, r.extBut m nf fun _ w _ => w⟩
  · obtain ⟨p, o, vs, lv, rs⟩ := i.owns y b es q
    exact ⟨hh y _ p, o, vs, m.own (fun z => hf b z (.inr (owned_of_lookup q))) lv, rs.extBut m nf fun _ w _ => w⟩
  · obtain ⟨vs, lv⟩ := i.there b w
    exact ⟨vs, m.own (fun z => hf b z (.inr w)) lv⟩
/-- what a comprehension gives -/
structure CompOk (G : Gr) (n : Nat) (env : Env) (σ : St) (sc : Scope) (elt target iter : Expr) (ifs : List Expr) (scope : Scope) (out : List D) : Prop where
  go : ∀ {pos ipos : Pos} {use : Option (Value → Sem Unit)} {Q : Value → Shared → Prop} {ok : Addr → Prop} {A : Around} {s : Shared} {E : Value → Shared → Prop}, Room n A → G.base.StaysIn s.heap → Inv G.base ok env σ s.heap →
    (∀ L C ws s' m, Stp G.base s s' → s.heap.get? L = none → s.heap.get? C = none → L ≠ C → OwnL s'.heap L ws → RepAll (fun b => okO ok σ b ∧ b ≠ L) s'.heap ws out → s'.heap.Ns C m → compPost G.M A E use Q (.ref L) C (.ok .next) s') →
    wpAny G.M A (comprehension (.ListComp elt [⟨target, iter, ifs, 0⟩] scope pos) scope env ipos (newList []) false (eval iter env) use) Q E s
theorem CompOk.mk' {elt target iter : Expr} {ifs : List Expr} {scope : Scope} {ds : List D} {σc : St} {f : D → St → St} {keep : D → Bool} {res : D → D} {out : List D}
    (FE : FEnv env sc) (hcap : Cap env σ scope σc) (hi : EvI G n env σ iter target ds) (hsub : ∀ d ∈ ds, Sub σc (f d σc))
    (hturn : ∀ cenv, CEnv cenv scope → ∀ d ∈ ds, AssC G n cenv target d (f d) ∧ Tests G n cenv (f d σc) ifs (keep d) ∧ (keep d = true → Ev G n cenv (f d σc) elt (res d)))
    (hz : ds.length < sizeLine) (ho : (ds.filter keep).map res = out)
    (hfree : (scope.names.all fun p => p.2 != .free || sc.names.lookup p.1 == some .cell) = true := by decide) (hnd : (scope.names.map (·.1)).Nodup := by decide) (hcell : ∀ y ∈ scope.names, y.2 ≠ .cell := by decide) (hkind : scope.kind = .function := by rfl)
    (hs : ∀ x, foldedSetIterable iter env x = pure x := by intro _; rfl) : CompOk G n env σ sc elt target iter ifs scope out :=
  ⟨fun r k i K => comp_core FE hfree hnd hcell hkind hcap hi hsub hturn hz hs r k i (by rw [ho]; exact K)⟩
theorem EvF.comp {elt target iter : Expr} {ifs : List Expr} {scope : Scope} {pos : Pos} {out : List D} (h : CompOk G n env σ sc elt target iter ifs scope out) :
    EvF G n env σ (.ListComp elt [⟨target, iter, ifs, 0⟩] scope pos) out := fun ok A s E r k i => by
  rw [eval_ListComp]
  refine h.go (use := none) r k i fun L C ws s' m st hL hC hLC l rs hn => ⟨m, hn, fun h' hs => ⟨st.forget hC hs, L, ws, rfl, hL, ?_, ?_⟩⟩
  · exact (sameBut_ext (base := G.base) hs).own hLC l
  · exact rs.extBut (sameBut_ext (base := G.base) hs) (fun a _ nd e => ns_not_node hn (e ▸ nd)) fun _ q _ => q
/-- x = [.. for ..], the store under way while the loop's frame goes -/
theorem Ex1.assignComp {x : Str} {elt target iter : Expr} {ifs : List Expr} {scope : Scope} {p pos spos : Pos} {out : List D} (h : CompOk G n env σ sc elt target iter ifs scope out) (hx : Storable env x)
    (hs : swapsWith (.ListComp elt [⟨target, iter, ifs, 0⟩] scope pos) (some (.Name x p)) spos.line env = pure true) :
    Ex1 G n env σ (.Assign [.Name x p] (.ListComp elt [⟨target, iter, ifs, 0⟩] scope pos) spos) fun fl σ' => fl = .next ∧ ∃ a, σ' = setS x (.own a out) σ := fun ok A s E r k i => by
  rw [exec_Assign_Name_used _ _ _ _ hs]
  refine wpAny_bind (wpAny_standAt (wpAny_bind ?_))
  show wpAny _ A (do let _ ← comprehension (.ListComp elt [⟨target, iter, ifs, 0⟩] scope pos) scope env _ (newList []) false (eval iter env) (some (PySem.assign (.Name x p) env))) _ _ s
  refine wpAny_bind (wpAny_mono (h.go (use := some (PySem.assign (.Name x p) env)) (Q := fun _ s' => After G env σ ok s (fun fl σ' => fl = .next ∧ ∃ a, σ' = setS x (.own a out) σ) .next s') r k i fun L C ws s' m st hL hC hLC l rs hn => ?_)
    (fun _ s' hq => wpAny_pure (wpAny_pure hq)) fun _ _ e => e)
  show wpAny _ A (PySem.assign (.Name x p) env (.ref L)) _ _ _
  refine wpAny_assign_Name ?_
  have i₁ := i.ext st.ext
  have hCF : ¬ FrW env C := fun w => by
    rcases w with z | ⟨x, z⟩
    · obtain ⟨m, o, _, _, q, _⟩ := i.frame.ns; rw [← z, hC] at q; cases q
    · obtain ⟨v, o, q, _⟩ := i.frame.cells x C z; rw [hC] at q; cases q
  refine wpAny_store (base := G.base) i₁.frame hx fun s₂ hv ho F mv => ?_
  have hn₂ : s₂.heap.Ns C m := by
    obtain ⟨o, es, ep, e, d, rr⟩ := hn
    obtain ⟨o', e', _, d', _⟩ := mv.ext _ o hCF e
    exact ⟨o', es, ep, e', d'.trans d, rr⟩
  refine ⟨m, hn₂, fun h' hs' => ?_⟩
  obtain ⟨i', m', k', o'⟩ := After.own k i st hL l rs hv ho F mv
  have fr : FreshOk ok h' := fun b e => by
    by_cases hb : b = C
    · rw [hb]; exact i.fresh C hC
    · exact i'.fresh b ((hs'.2 b hb).symm.trans e)
  have hCo : ¬ Wr env (setS x (.own L out) σ) C := fun w => by
    rcases w with w | w
    · exact hCF w
    · rcases o' C w with w | w
      · obtain ⟨vs, q⟩ := i.there C w; have := q.some; rw [hC] at this; cases this
      · exact hLC w.symm
  have mm : Mv G.base (Wr env σ) s { s₂ with heap := h' } := ⟨fun b o w e => by
      obtain ⟨o', e', c', d', k'⟩ := m'.ext b o w e
      have hb : b ≠ C := fun q => by rw [q, hC] at e; cases e
      exact ⟨o', (hs'.2 b hb).trans e', c', d', k'⟩, fun b e => (by
      by_cases hb : b = C
      · rw [hb]; exact hC
      · exact m'.dom b ((hs'.2 b hb).symm.trans e)), m'.os, m'.gens⟩
  exact ⟨.next, _, ⟨rfl, L, rfl⟩, trivial, i'.butW (sameBut_ext hs') fr (fun a e => e ▸ hCo) (fun a e _ => e ▸ ns_not_node hn₂), mm, mm.base k i.off, fun b w => (o' b w).imp id fun w => by rw [w]; exact hL⟩
end
end Mine
end
section
open PySem PySem.W PyProof.Rows PySem.Calls
set_option maxRecDepth 100000
namespace Mine
theorem own_inj {x y : Str} {a : Addr} {es fs : List D} : ∀ {σ : St}, (owned σ).Nodup → σ.lookup x = some (.own a es) → σ.lookup y = some (.own a fs) → x = y
  | (z, t) :: r, nd, hx, hy => by
    rw [List.lookup_cons] at hx hy
    rw [owned_cons] at nd
    cases ex : x == z with
    | true =>
      rw [ex] at hx; cases hx
      cases ey : y == z with
      | true => rw [beq_iff_eq.mp ex, beq_iff_eq.mp ey]
      | false =>
        rw [ey] at hy
        exact absurd (owned_of_lookup hy) (List.nodup_cons.mp nd).1
    | false =>
      rw [ex] at hx
      cases ey : y == z with
      | true =>
        rw [ey] at hy; cases hy
        exact absurd (owned_of_lookup hx) (List.nodup_cons.mp nd).1
      | false =>
        rw [ey] at hy
        exact own_inj (List.nodup_append.mp nd).2.1 hx hy
theorem owned_mem : ∀ {σ : St} {a : Addr}, a ∈ owned σ → ∃ x es, (x, Slot.own a es) ∈ σ
  | (z, t) :: r, a, h => by
    rw [owned_cons] at h
    rcases List.mem_append.mp h with h | h
    · cases t with
      | val d => cases h
      | own b es => rw [List.mem_singleton.mp h]; exact ⟨z, es, .head _⟩
    · obtain ⟨x, es, q⟩ := owned_mem h
      exact ⟨x, es, .tail _ q⟩
theorem Sub.mem {σ₀ σ : St} (h : Sub σ₀ σ) : ∀ {x s}, (x, s) ∈ σ₀ → σ.lookup x = some s := by
  induction σ₀ with
  | nil => intro _ _ q; cases q
  | cons y r ih =>
    intro x s q
    rcases List.mem_cons.mp q with q | q
    · cases q; exact h.1
    · exact ih h.2 q
theorem Sub.nodup {σ : St} (nd : (Mine.owned σ).Nodup) : ∀ {σ₀ : St}, (σ₀.map (·.1)).Nodup → Sub σ₀ σ → (Mine.owned σ₀).Nodup
  | [], _, _ => List.nodup_nil
  | (x, t) :: r, hn, hs => by
    rw [List.map_cons, List.nodup_cons] at hn
    have ih := Sub.nodup nd hn.2 hs.2
    cases t with
    | val d => exact ih
    | own a es =>
      refine List.nodup_cons.mpr ⟨fun q => ?_, ih⟩
      obtain ⟨y, fs, q⟩ := owned_mem q
      have : x = y := own_inj nd hs.1 (Sub.mem hs.2 q)
      exact hn.1 (List.mem_map.mpr ⟨_, q, this.symm⟩)
section
variable {G : Gr} {n : Nat} {env : Env} {σ : St} {sc : Scope}
theorem Ex.only {σ₀ : St} {body : List Stmt} {Q : Fl → St → Prop} (hs : Sub σ₀ σ) (h : Ex G n env σ₀ body Q) (hn : (σ₀.map (·.1)).Nodup := by simp; try decide) : Ex G n env σ body Q := fun ok A s E r k i =>
  wpAny_mono (h ok A s E r k (i.sub hs (Sub.nodup i.once hn hs))) (fun _ _ a => a.sub hs.owned) fun _ _ x => x
theorem Ex1.only {σ₀ : St} {st : Stmt} {Q : Fl → St → Prop} (hs : Sub σ₀ σ) (h : Ex1 G n env σ₀ st Q) (hn : (σ₀.map (·.1)).Nodup := by simp; try decide) : Ex1 G n env σ st Q := fun ok A s E r k i =>
  wpAny_mono (h ok A s E r k (i.sub hs (Sub.nodup i.once hn hs))) (fun _ _ a => a.sub hs.owned) fun _ _ x => x
theorem Ex.post {body : List Stmt} {Q Q' : Fl → St → Prop} (h : Ex G n env σ body Q) (hq : ∀ fl σ', Q fl σ' → Q' fl σ' ∨ ∃ σ₀, Sub σ₀ σ' ∧ (σ₀.map (·.1)).Nodup ∧ Q' fl σ₀) : Ex G n env σ body Q' := fun ok A s E r k i =>
  wpAny_mono (h ok A s E r k i) (fun f s' a => by
    obtain ⟨fl, σ', q, fi, i', m, k', o⟩ := a
    rcases hq fl σ' q with q' | ⟨σ₀, hs, hn, q'⟩
    · exact ⟨fl, σ', q', fi, i', m, k', o⟩
    exact ⟨fl, σ₀, q', fi, i'.sub hs (Sub.nodup i'.once hn hs), m, k', fun b w => o b (hs.owned b w)⟩) fun _ _ x => x
/-- what a turn of a loop leaves -/
def Turn {ι : Type} (S : ι → St) (K : St → Prop) (Q : Fl → St → Prop) (fl : Fl) (σ₂ : St) : Prop := match fl with
  | .next | .cont => ∃ p, Sub (S p) σ₂
  | .brk => K σ₂
  | .ret r => Q (.ret r) σ₂
/-- the same, with a word on the state's numbers -/
def TurnJ {ι : Type} (S : ι → St) (J : ι → Prop) (K : St → Prop) (Q : Fl → St → Prop) (fl : Fl) (σ₂ : St) : Prop := match fl with
  | .next | .cont => ∃ p, J p ∧ Sub (S p) σ₂
  | .brk => K σ₂
  | .ret r => Q (.ret r) σ₂
theorem Ex.forJ {ι : Type} {target iter : Expr} {body rest : List Stmt} {pos : Pos} {ds : List D} {f : D → St → St} {Q : Fl → St → Prop} (S : Nat → ι → St) (J : Nat → ι → Prop) (p₀ : ι) (hJ : J 0 p₀) (h0 : Sub (S 0 p₀) σ) (nd : ∀ i p, ((S i p).map (·.1)).Nodup)
    (hi : EvI G n env (S 0 p₀) iter target ds) (ht : ∀ d ∈ ds, AssD G n env target d (f d))
    (turn : ∀ i d p, ds[i]? = some d → J i p → Ex G n env (f d (S i p)) body (TurnJ (S (i + 1)) (J (i + 1)) (fun σ₂ => Ex G n env σ₂ rest Q) Q))
    (done : ∀ p, J ds.length p → Ex G n env (S ds.length p) rest Q) (hs : ∀ x, foldedSetIterable iter env x = pure x := by intro _; rfl) : Ex G n env σ (.For target iter body [] pos :: rest) Q := by
  refine Ex.cons (Ex1.only h0 ?_ (nd _ _))
  refine Ex1.for (f := f) hi ht (fun i σ₁ => ∃ p, J i p ∧ σ₁ = S i p) ⟨p₀, hJ, rfl⟩ (fun i d σ₁ hd hJ => ?_) (fun σ₁ hJ => ?_) hs
  · obtain ⟨p, hj, rfl⟩ := hJ
    refine (turn i d p hd hj).post fun fl σ' h => ?_
    cases fl with
    | next => obtain ⟨p', hj', hp⟩ := h; exact .inr ⟨_, hp, nd _ _, p', hj', rfl⟩
    | cont => obtain ⟨p', hj', hp⟩ := h; exact .inr ⟨_, hp, nd _ _, p', hj', rfl⟩
    | brk => exact .inl h
    | ret r => exact .inl h
  · obtain ⟨p, hj, rfl⟩ := hJ
    exact done p hj
theorem Ex.forS {ι : Type} {target iter : Expr} {body rest : List Stmt} {pos : Pos} {ds : List D} {f : D → St → St} {Q : Fl → St → Prop} (S : Nat → ι → St) (p₀ : ι) (h0 : Sub (S 0 p₀) σ) (nd : ∀ i p, ((S i p).map (·.1)).Nodup)
    (hi : EvI G n env (S 0 p₀) iter target ds) (ht : ∀ d ∈ ds, AssD G n env target d (f d))
    (turn : ∀ i d p, ds[i]? = some d → Ex G n env (f d (S i p)) body (Turn (S (i + 1)) (fun σ₂ => Ex G n env σ₂ rest Q) Q))
    (done : ∀ p, Ex G n env (S ds.length p) rest Q) (hs : ∀ x, foldedSetIterable iter env x = pure x := by intro _; rfl) : Ex G n env σ (.For target iter body [] pos :: rest) Q := by
  refine Ex.forJ S (fun _ _ => True) p₀ trivial h0 nd hi ht (fun i d p hd _ => (turn i d p hd).mono fun fl σ' h => ?_) (fun p _ => done p) hs
  cases fl with
  | next => obtain ⟨p, h⟩ := h; exact ⟨p, trivial, h⟩
  | cont => obtain ⟨p, h⟩ := h; exact ⟨p, trivial, h⟩
  | brk => exact h
  | ret r => exact h
end
end Mine
end
section
open PySem PySem.W PyProof.Rows PySem.Calls
set_option maxRecDepth 100000
namespace Mine
section
variable {G : Gr} {n : Nat} {env : Env} {σ : St} {sc : Scope}
theorem fn_ev {d : DefRec} {a : Addr} {p : Pos} (F : FnAt G d a) (hk : env.kindOf d.name = some .globalImplicit) (hd : (d.name == ("__debug__" : Str)) = false := by decide) : Ev G n env σ (.Name d.name p) (.raw (.ref a)) :=
  .global hk F.name (fun _ _ => .raw _) hd
theorem FnAt.callee {d : DefRec} {a : Addr} (F : FnAt G d a) : Callee G (.ref a) := by
  obtain ⟨o, pm, code, doc, h1, h2, _⟩ := F.obj
  exact .fn h1 h2
theorem CallD.fn1 {d : DefRec} {a : Addr} {d1 r : D} {x : Str} (F : FnAt G d a) (h : ∀ env, FEnv env d.scope → Ex G n env [(x, .val d1)] d.body fun fl _ => fl = .ret r)
    (hx : d.params.args.map (·.arg) = [x] := by rfl) (hb : ∀ pm code doc v, bindArgs (docDef d.name d.params d.body d.scope pm code doc) ⟨[v], []⟩ = pure [(x, v)] := by intros; rfl)
    (hkind : (d.params.args.all fun y => d.scope.names.lookup y.arg == some .local || d.scope.names.lookup y.arg == some .cell) = true := by rfl)
    (hco : d.scope.isCoroutine = false := by rfl) (hgen : d.scope.isGenerator = false := by rfl) (hk : d.scope.kind = .function := by rfl) : CallD G (n + 1) (.ref a) [d1] r := by
  refine CallD.def F (by rw [← List.length_map (f := fun y : Arg => y.arg), hx]; rfl) (fun pm code doc vs hl => ?_) hkind (by rw [hx]; simp) (fun env FE => ?_) hco hgen hk
  · rw [hx]
    obtain ⟨v, rfl⟩ := List.length_eq_one_iff.mp hl
    exact hb pm code doc v
  · rw [hx]; exact h env FE
/-- while with a test that makes something -/
theorem Ex.whileT (P : Shared → Prop) {ι : Type} {test : Expr} {body rest : List Stmt} {pos : Pos} {Q : Fl → St → Prop} (S : ι → St) (m : ι → Nat) (c : ι → Bool) (p₀ : ι) (h0 : Sub (S p₀) σ) (nd : ∀ p, ((S p).map (·.1)).Nodup)
    (ht : ∀ p ok A s E, Room n A → G.base.StaysIn s.heap → Inv G.base ok env (S p) s.heap → wpAny G.M A (isTrue test env (eval test env)) (fun r s' => (Stp G.base s s' ∧ r = c p) ∧ P s') E s)
    (turn : ∀ p, c p = true → ∀ ok A s E, P s → Room n A → G.base.StaysIn s.heap → Inv G.base ok env (S p) s.heap → wpAny G.M A (execs body env) (After G env (S p) ok s fun fl σ₂ => match fl with
      | .next | .cont => ∃ p', m p' < m p ∧ Sub (S p') σ₂
      | .brk => Ex G n env σ₂ rest Q
      | .ret r => Q (.ret r) σ₂) E s)
    (done : ∀ p, c p = false → Ex G n env (S p) rest Q) : Ex G n env σ (.While test body [] pos :: rest) Q := by
  refine Ex.cons (Ex1.only h0 (fun ok A s E r k i => ?_) (nd _))
  refine wpAny_While ?_
  refine codeAny_whileLoop (fun q s' => ∃ p, q = m p ∧ Inv G.base ok env (S p) s'.heap ∧ Mv G.base (Wr env (S p₀)) s s' ∧ G.base.StaysIn s'.heap ∧ ∀ a ∈ owned (S p), a ∈ owned (S p₀) ∨ s.heap.get? a = none) ?_ (m p₀) ⟨p₀, rfl, i, Stp.refl.mv, k, fun _ h => .inl h⟩
  rintro _ s' ⟨p, rfl, i', mv, k', ow⟩
  refine wpAny_mono (ht p ok A s' _ r k' i') (fun b s₂ q => ?_) fun _ _ x => x
  obtain ⟨⟨st, rfl⟩, htk⟩ := q
  have mv₂ : Mv G.base (Wr env (S p₀)) s s₂ := mv.trans (st.mv (W := fun _ => False)) fun _ f => f.elim
  have k₂ := st.ext.base k'
  have i₂ := i'.ext st.ext
  cases hc : c p with
  | true =>
    rw [if_pos rfl]
    refine wpAny_mono (turn p hc ok A s₂ _ htk r k₂ i₂) (fun f s₃ a => ?_) fun _ _ x => x
    obtain ⟨fl, σ', q, fi, i₃, m₃, k₃, o₃⟩ := a
    have mv₃ : Mv G.base (Wr env (S p₀)) s s₃ := mv₂.trans m₃ fun b w => by
      rcases w with w | w
      · exact .inl (.inl w)
      · exact (ow b w).imp .inr id
    have o₃' : ∀ a ∈ owned σ', a ∈ owned (S p₀) ∨ s.heap.get? a = none := fun a w => by
      rcases o₃ a w with w | w
      · exact ow a w
      · exact .inr (mv₂.dom a w)
    cases f <;> cases fl <;> first | exact fi.elim | skip
    · obtain ⟨p', hm, hs⟩ := q
      exact ⟨m p', hm, p', rfl, i₃.sub hs (Sub.nodup i₃.once (nd p') hs), mv₃, k₃, fun a w => o₃' a (hs.owned a w)⟩
    · exact ⟨.next, σ', q, trivial, i₃, mv₃, k₃, o₃'⟩
    · obtain ⟨p', hm, hs⟩ := q
      exact ⟨m p', hm, p', rfl, i₃.sub hs (Sub.nodup i₃.once (nd p') hs), mv₃, k₃, fun a w => o₃' a (hs.owned a w)⟩
    · exact ⟨.ret _, σ', q, fi, i₃, mv₃, k₃, o₃'⟩
  | false =>
    rw [if_neg (by simp)]
    exact wpAny_execs_nil ⟨.next, S p, done p hc, trivial, i₂, mv₂, k₂, ow⟩
theorem Ex.whileS {ι : Type} {test : Expr} {body rest : List Stmt} {pos : Pos} {Q : Fl → St → Prop} (S : ι → St) (m : ι → Nat) (c : ι → Bool) (p₀ : ι) (h0 : Sub (S p₀) σ) (nd : ∀ p, ((S p).map (·.1)).Nodup)
    (ht : ∀ p, Tr G n env (S p) test (c p))
    (turn : ∀ p, c p = true → Ex G n env (S p) body fun fl σ₂ => match fl with
      | .next | .cont => ∃ p', m p' < m p ∧ Sub (S p') σ₂
      | .brk => Ex G n env σ₂ rest Q
      | .ret r => Q (.ret r) σ₂)
    (done : ∀ p, c p = false → Ex G n env (S p) rest Q) : Ex G n env σ (.While test body [] pos :: rest) Q :=
  Ex.whileT (fun _ => True) S m c p₀ h0 nd (fun p ok A s E r k i => wpAny_mono (ht p ok A s E r k i) (fun _ _ q => ⟨q, trivial⟩) fun _ _ x => x) (fun p hp ok A s E _ r k i => turn p hp ok A s E r k i) done
end
end Mine
end
section
open PySem PySem.W PyProof.Rows PySem.Calls
set_option maxRecDepth 100000
namespace Mine
section
variable {p : Program} {loose : List Str} {mean : ExcName → Option Value} {mg mb : Str → Option Value} {s₁ : Shared} {prog : Program} {w : World}
/-- the ground behind the top -/
def groundOf (T : Top p loose mean mg mb s₁.heap) (prog : Program) (w : World) : Gr := ⟨prog, w, s₁.heap, mg, mb, T.g, T.b, T.builtins, T.nolimit⟩
theorem fnAt_of (T : Top p loose mean mg mb s₁.heap) {d : DefRec} (j : Nat) (h : (recsOf p)[j]? = some d) : ∃ a, FnAt (groundOf T prog w) d a := by
  obtain ⟨a, o, pm, code, doc, h1, h2, h3, h4⟩ := T.fn d (List.mem_of_getElem? h)
  exact ⟨a, h1, o, pm, code, doc, h2, h3, h4⟩
theorem fnAt_law (T : Top p loose mean mg mb s₁.heap) {d : DefRec} {fa : Addr} (hmg : mg d.name = some (.ref fa)) (j : Nat) (h : (recsOf p)[j]? = some d) : FnAt (groundOf T prog w) d fa := by
  obtain ⟨a, F⟩ := fnAt_of (prog := prog) (w := w) T j h
  have : mg d.name = some (.ref a) := F.name
  rw [hmg] at this; cases this
  exact F
theorem free_of (T : Top p loose mean mg mb s₁.heap) (x : Str) (h : (startupNames.contains x || loose.contains x || ((recsOf p).map (·.name)).contains x || ((litsOf p).map (·.1)).contains x || ((clssOf p loose).map (·.name)).contains x) = false) : (groundOf T prog w).mg x = none := by
  simp only [Bool.or_eq_false_iff] at h
  have q : ∀ {l : List Str}, l.contains x = false → x ∉ l := fun hl hm => by rw [List.contains_iff_mem.mpr hm] at hl; cases hl
  exact T.free x (q h.1.1.1.1) (q h.1.1.1.2) (q h.1.1.2) (q h.1.2) (q h.2)
theorem rep_ints {ok : Addr → Prop} {h : Heap} : ∀ {vs : List Value} {ns : List Int}, IntsAre vs ns → RepAll ok h vs (ns.map .int)
  | _, _, .nil => .nil
  | _, _, .cons n t r => .cons (.int n t) (rep_ints r)
theorem law_fin {c : ClaimW} {cl : Str → Option Addr} {mean' : ExcName → Option Value} {args : List WData} {fa aL : Addr} {vs : List Value} {ns : List Int} {n : Nat} (T : Top p loose mean mg mb s₁.heap) (hL : s₁.heap.IsList aL vs.toArray) (hI : IntsAre vs ns) (hg : s₁.gens = #[])
    (law : CallD (groundOf T prog w) n (.ref fa) [.list (ns.map .int)] (.bool true)) (hn : n ≤ 90) (hr : ∀ cls, c.raises args cls = false) (hp : c.post args (.bool true) args = true) :
    wpAny (model prog w) callerA (call (.ref fa) [.ref aL]) (fun v s' => GoodWG c cl mean' args s₁ (.ok (.ret v)) s') (fun e s' => GoodWG c cl mean' args s₁ (.error e) s') s₁ := by
  have room : Room n callerA := ⟨rfl, by
    have : (callerA.depth + 90 < recursionLimit) := by decide +kernel
    omega, by
    have : (callerA.units + 30 * 90 + 500 < cLine) := by decide +kernel
    omega⟩
  refine wpAny_mono (law (fun _ => True) callerA s₁ _ [.ref aL] room (fun _ _ e => e) (fun _ _ => trivial) (.cons (.list trivial hL (rep_ints hI)) .nil)) (fun v s' q => ?_) fun _ _ x => x
  obtain ⟨st, r⟩ := q
  cases r
  have base : Heap.StaysIn s₁.heap s'.heap := st.ext.base (fun _ _ e => e)
  exact ⟨.inl ⟨_, _, _, rfl, hr, .bool true, hp, unshared_nil⟩, .of_keep base, st.os, fun x hx => st.gens.bare (fun y hy => by rw [hg] at hy; simp at hy) x hx⟩
end
end Mine
end
section
open PySem PySem.W PyProof.Rows PySem.Calls
set_option maxRecDepth 100000
namespace Mine
open Builtin.Str StrLaws
/-- the places of a sign, at most k of them -/
def pos (c : Nat) : Nat → Nat → List Nat → List Nat
  | _, _, [] => []
  | 0, _, _ => []
  | k + 1, a, x :: r => if x = c then a :: pos c k (a + 1) r else pos c (k + 1) (a + 1) r
abbrev S (l : List Nat) : Str := ⟨l.toArray⟩
theorem S_length (l : List Nat) : (S l).length = l.length := by show l.toArray.size = _; simp
end Mine
end
section
open PySem PySem.W PyProof.Rows PySem.Calls
set_option maxRecDepth 100000
namespace Mine
theorem data_list {n : Nat} {ds : List D} (h : ∀ d ∈ ds, d.data n = true) : (D.list ds).data (n + 1) = true := by
  show D.datas n ds = true
  induction ds with
  | nil => rfl
  | cons d r ih =>
    show (D.data n d && D.datas n r) = true
    rw [h d (.head _), ih fun e q => h e (.tail _ q)]; rfl
/-- good code points -/
def Good (l : List Nat) : Prop := ∀ c ∈ l, c < 1114112
end Mine
end
section
open PySem PySem.W PyProof.Rows PySem.Calls
set_option maxRecDepth 100000
namespace Mine
section
variable {G : Gr} {n : Nat} {env : Env} {σ : St} {sc : Scope}
theorem fresh_not_wr {base : Heap} {ok : Addr → Prop} {h : Heap} {a : Addr} (i : Inv base ok env σ h) (h0 : h.get? a = none) : ¬ Wr env σ a := by
  rintro ((w | ⟨x, w⟩) | w)
  · obtain ⟨m, o, _, _, q, _⟩ := i.frame.ns; rw [← w, h0] at q; cases q
  · obtain ⟨_, o, q, _⟩ := i.frame.cells x a w; rw [h0] at q; cases q
  · obtain ⟨vs, l⟩ := i.there a w; have := l.some; rw [h0] at this; cases this
end
end Mine
end
section
open PySem PySem.W PyProof.Rows PySem.Calls
set_option maxRecDepth 100000
namespace Mine
section
variable {G : Gr} {n : Nat} {env : Env} {σ : St} {sc : Scope}
def nodeType (T : String) : Bool := (["list", "tuple", "slice", "range"] : List String).contains T
theorem not_node {h : Heap} {a : Addr} {o : Obj} {T : String} (e : h.get? a = some o) (c : o.cls = .type T) (hT : nodeType T = false) : ¬ IsNode h a := fun nd => by
  cases nd with
  | list l => obtain ⟨o₂, e₂, c₂, _⟩ := l; rw [e] at e₂; cases e₂; rw [c] at c₂; cases c₂; cases hT
  | tup l => obtain ⟨o₂, e₂, c₂, _⟩ := l; rw [e] at e₂; cases e₂; rw [c] at c₂; cases c₂; cases hT
  | slice e₂ c₂ _ => rw [e] at e₂; cases e₂; rw [c] at c₂; cases c₂; cases hT
  | rng e₂ => unfold IsRange at e₂; rw [e] at e₂; cases e₂; cases c; cases hT
theorem node_keep {base : Heap} {W : Addr → Prop} {h h' : Heap} {b : Addr} {o : Obj} (x : ExtBut base W h h') (nd : IsNode h b) (w : ¬ W b) (e : h.get? b = some o) : h'.get? b = some o := by
  obtain ⟨o', e', _, _, k'⟩ := x b o w e
  rw [e', k' (.inr ?_)]
  cases nd with
  | list l => obtain ⟨o₂, e₂, _, k, d⟩ := l; rw [e] at e₂; cases e₂; rw [d]; rfl
  | tup l => obtain ⟨o₂, e₂, _, k, d⟩ := l; rw [e] at e₂; cases e₂; rw [d]; rfl
  | slice e₂ _ d => rw [e] at e₂; cases e₂; rw [d]; rfl
  | rng e₂ => unfold IsRange at e₂; rw [e] at e₂; cases e₂; rfl
theorem MvI.of_keepL {base : Heap} {l : List Addr} {s : Shared} {h' : Heap} {tk : Nat} (h : ∀ b o, b ∉ l → s.heap.get? b = some o → h'.get? b = some o) : MvI base (· ∈ l) (fun _ => False) s { s with heap := h', toks := tk } :=
  ⟨fun b o w e => ⟨o, h b o w e, rfl, rfl, fun _ => rfl⟩, fun b w e => (by
    cases q : s.heap.get? b with
    | none => rfl
    | some o => (have := h b o w q; rw [show h'.get? b = none from e] at this; cases this)), rfl, fun _ _ _ e => e, fun q => q⟩
end
end Mine
end
section
open PySem PySem.W PyProof.Rows PySem.Calls
set_option maxRecDepth 100000
namespace Mine
section
variable {G : Gr} {n : Nat} {env : Env} {σ : St} {sc : Scope}
theorem load_holds {M : Model} {A : Around} {E : Value → Shared → Prop} {s : Shared} {x : Str} {v : Value} {Q : Value → Shared → Prop} (hk : env.scope.kind = .function) (q : Holds env s.heap x v) (h : Q v s) (hc : (x == ("__classdict__" : Str)) = false) : wpAny M A (loadName env x) Q E s := by
  rcases q with ⟨k, m, hn, hv⟩ | ⟨k | k, c, hl, hv⟩
  · exact wpAny_loadName_local hk k hn hv h
  · exact wpAny_loadName_cell hk k hl hv h
  · exact wpAny_loadName_free hk k hl hv h hc
/-- x += e, x -= e -/
theorem Ex1.aug {x : Str} {op : Operator} {e : Expr} {p pos : Pos} {i j k : Int} (hl : σ.lookup x = some (.val (.int i))) (h : Ev G n env σ e (.int j)) (hx : Storable env x) (ho : (op = .Add ∧ k = i + j) ∨ (op = .Sub ∧ k = i - j)) (hc : (x == ("__classdict__" : Str)) = false := by decide) :
    Ex1 G n env σ (.AugAssign (.Name x p) op e pos) fun fl σ' => fl = .next ∧ σ' = setS x (.val (.int k)) σ := fun ok A s E r kb iv => by
  obtain ⟨v, hv, rv⟩ := iv.vals x _ hl
  cases rv
  refine wpAny_AugAssign_Name (load_holds iv.frame.kind hv (wpAny_mono (h ok A s E r kb iv) (fun w s₁ p₁ => ?_) fun _ _ x => x) hc)
  obtain ⟨st, rw'⟩ := p₁
  cases rw'
  have i₁ := iv.ext st.ext
  have fin : ∀ s₂, Stp G.base s₁ s₂ → ∀ t, wpAny G.M A (storeName env x (.int k t)) (fun _ => After G env σ ok s (fun fl σ' => fl = .next ∧ σ' = setS x (.val (.int k)) σ) .next) E s₂ := fun s₂ st₂ t => by
    have st' := st.trans st₂
    have i₂ := iv.ext st'.ext
    refine wpAny_store (base := G.base) i₂.frame hx fun s₃ hv ho F m => ?_
    have m' : Mv G.base (Wr env σ) s s₃ := (st'.mv (W := Wr env σ)).trans (m.weak fun _ w => Or.inl w) fun _ w => .inl w
    exact ⟨.next, _, ⟨rfl, rfl⟩, trivial, i₂.set_val m F hv ho (.int _ _), m', m'.base kb iv.off, fun a w => .inl (owned_setS_val w)⟩
  rcases ho with ⟨rfl, rfl⟩ | ⟨rfl, rfl⟩
  · exact AutoIntOps.iadd_0 (fin _ .tok _)
  · exact AutoIntOps.isub_0 (fin _ .tok _)
theorem strs_of {ok : Addr → Prop} {h : Heap} : ∀ {vs : List Value} {ts : List Str}, RepAll ok h vs (ts.map .str) → ∃ l : List (Str × Tok), strValues l = vs ∧ l.map (·.1) = ts
  | _, [], r => by cases r; exact ⟨[], rfl, rfl⟩
  | _, t :: ts, r => by
    cases r with | cons a r =>
    cases a with | str _ u =>
    obtain ⟨l, h1, h2⟩ := strs_of r
    exact ⟨(t, u) :: l, by rw [← h1]; rfl, by rw [← h2]; rfl⟩
theorem CallD.join {x : Str} {ts : List Str} (hok : JoinOk x ts = true) : CallD G n (.builtin "str.join") [.str x, .list (ts.map .str)] (.str (Txt.join x ts)) := fun ok A s E vs r k f rs => by
  cases rs with
  | cons a rs => cases rs with
    | cons b rs =>
      cases rs; cases a
      cases b with
      | list o l ra =>
        obtain ⟨l', rfl, h2⟩ := strs_of ra
        exact SC.join l h2 hok fun t' k => ⟨.tok, .str _ _⟩
theorem MethD.join {x : Str} : MethD G n (.str x) "join" (.builtin "str.join") := fun ok A s E v pl r k f rp => by
  cases rp; exact GM.join ⟨.refl, rfl⟩
theorem Ev.methB {o : Expr} {name : Str} {apos pos : Pos} {es : List Expr} {f : Value} {dv : D} {ds : List D} {d : D} (ho : EvB G n env σ o dv) (hm : MethD G n dv name f) (c : Callee G f) (ha : EvLB G n env σ es ds) (hc : CallD G n f (dv :: ds) d) (hat : Atomic d = true)
    (hns : noStar es = true := by rfl) (hplain : (backTo pos (starEach es env)).any (·.1) = false := by rfl)
    {pl : Sem Bool} (he : eval (.Call (.Attribute o name apos) es [] pos) env = (do
      let ov ← eval o env
      standAt apos.atName
      let (f, first) ← holding [ov] (getMethod ov name pl)
      callWith pos f first (backTo pos (starEach es env)) []) := by rfl) : Ev G n env σ (.Call (.Attribute o name apos) es [] pos) d := fun ok A s E r k i =>
  MethodCall_ (pl := pl) (wpAny_mono (ho ok A s E r k i) (fun v s₁ p₁ => wpAny_mono (hm _ A s₁ E v _ r (p₁.1.ext.base k) (i.ext p₁.1.ext).fresh p₁.2) (fun fx s₂ p₂ => by
    obtain ⟨st₂, rfl⟩ := p₂
    have st := p₁.1.trans st₂
    refine callWith_callee c hplain (wpAny_mono (ha ok A s₂ E pos r (st.ext.base k) (i.ext st.ext)) (fun vs s₃ p₃ => ⟨p₃.1.ext.base (st.ext.base k), ?_⟩) fun _ _ x => x) hns
    have st' := st.trans p₃.1
    exact wpAny_mono (hc _ A s₃ E (v :: vs) r (st'.ext.base k) (i.ext st'.ext).fresh (.cons ((p₁.2.stp st₂).stp p₃.1) p₃.2)) (fun _ _ p₄ => ⟨st'.trans p₄.1, p₄.2.atomic hat⟩) fun _ _ x => x) fun _ _ x => x) fun _ _ x => x) he
theorem join_none : ∀ (ls : List (List Nat)), Txt.join (S []) (ls.map S) = S ls.flatten := by
  intro ls
  unfold Txt.join
  rw [StrLaws.glued_eq_join]
  induction ls with
  | nil => rfl
  | cons l r ih =>
    cases r with
    | nil => show S l = _; simp
    | cons m t =>
      show S l ++ S [] ++ Str.join (S []) ((m :: t).map S) = _
      rw [ih]
      show (⟨(l.toArray ++ #[]) ++ (m :: t).flatten.toArray⟩ : Str) = _
      simp
theorem joinOk_none {ls : List (List Nat)} (h : ls.flatten.length ≤ sizeLine) : JoinOk (S []) (ls.map S) = true := by
  unfold JoinOk
  rw [StrLaws.joinTotal]
  have e : ((ls.map S).map (·.length)).sum = ls.flatten.length := by
    clear h
    induction ls with
    | nil => rfl
    | cons l r ih => rw [List.map_cons, List.map_cons, List.sum_cons, ih, List.flatten_cons, List.length_append, S_length]
  rw [e]
  show (!decide (ls.flatten.length + (ls.map S).length * 0 > sizeLine)) = true
  rw [Nat.mul_zero, Nat.add_zero]
  rw [Bool.not_eq_true', decide_eq_false_iff_not]; omega
end
end Mine
end
section
open PySem PySem.W PyProof.Rows PySem.Calls
set_option maxRecDepth 100000
namespace Mine
/-- signs with their places, a backslash and the sign behind it as one -/
def toks : Nat → Bool → List Nat → List (Nat × List Nat)
  | i, false, [] => []
  | i, true, [] => [(i - 1, [92])]
  | i, true, c :: r => (i, [92, c]) :: toks (i + 1) false r
  | i, false, c :: r => if c = 92 then toks (i + 1) true r else (i, [c]) :: toks (i + 1) false r
abbrev SS := Nat × Option Nat × List (List Nat)
def stripStep (l : List Nat) (st : SS) (t : Nat × List Nat) : SS :=
  if t.2 = [34] then match st.2.1 with
    | none => (st.1, some t.1, st.2.2)
    | some o => (t.1 + 1, none, if st.1 ≠ o then st.2.2 ++ [(l.drop st.1).take (o - st.1)] else st.2.2)
  else st
def stripAt (l : List Nat) (ts : List (Nat × List Nat)) : SS := ts.foldl (stripStep l) (0, none, [])
def stripEnd (l : List Nat) (st : SS) : List (List Nat) := if st.1 < l.length then st.2.2 ++ [l.drop st.1] else st.2.2
def strip (l : List Nat) : List Nat := if 34 ∈ l then (stripEnd l (stripAt l (toks 0 false l))).flatten else l
theorem flatten_le {ls : List (List Nat)} {m : Nat} (h : ∀ p ∈ ls, p.length ≤ m) : ls.flatten.length ≤ ls.length * m := by
  induction ls with
  | nil => simp
  | cons a r ih =>
    have := ih fun p hp => h p (.tail _ hp)
    have := h a (.head _)
    rw [List.flatten_cons, List.length_append, List.length_cons, Nat.succ_mul]; omega
/-- the count of open brackets, none once it fell below -/
def openStep (st : Option Int) (t : Nat × List Nat) : Option Int := match st with
  | none => none
  | some k => if t.2 = [40] then some (k + 1) else if t.2 = [41] then (if k - 1 < 0 then none else some (k - 1)) else some k
def openAt (ts : List (Nat × List Nat)) : Option Int := ts.foldl openStep (some 0)
def sound (l : List Nat) : Bool := openAt (toks 0 false l) == some 0
def check (l : List Nat) : Bool := sound (strip l)
def bad : List Nat := [40, 39, 39, 44, 32, 39, 39, 41]
def pre (l : List Nat) : List Nat := if check l then l else bad
/-- two names take a pair -/
def pairS (x y : Str) : D → St → St
  | .tuple [a, b], σ => setS y (.val b) (setS x (.val a) σ)
  | _, σ => σ
theorem S_app (l m : List Nat) : S l ++ S m = S (l ++ m) := by
  show (⟨l.toArray ++ m.toArray⟩ : Str) = _
  simp
theorem sz {k : Nat} (h : k ≤ 16000000) : k ≤ sizeLine := Nat.le_trans h (by decide)
section
variable {G : Gr} {n : Nat} {env : Env} {σ : St} {A : Around} {okc : Addr → Prop} {g : Nat} {c : Code} {fs : List PySem.Frame} {FR : Addr → Prop} {Res : Heap → Prop} {ds : List D}
theorem AssD.pair {x y : Str} {p q tp : Pos} {k : Nat} {a b : D} (hx : Storable env x) (hy : Storable env y) : AssD G n env (.Tuple [.Name x p, .Name y q] k tp) (.tuple [a, b]) (pairS x y (.tuple [a, b])) :=
  AssD.tuple (f := pairS x y (.tuple [a, b])) (AssL.cons (f := setS x (.val a)) (g := fun σ => setS y (.val b) σ) (.name hx) (AssL.cons (f := setS y (.val b)) (g := id) (.name hy) .nil)) rfl
theorem EvB.castB {e : Expr} {d d' : D} (h : EvB G n env σ e d) (q : d = d') : EvB G n env σ e d' := q ▸ h
end
end Mine
end
section
open PySem PySem.W PyProof.Rows PySem.Calls
set_option maxRecDepth 100000
namespace Mine
section
variable {G : Gr} {n : Nat} {env : Env} {σ : St} {sc : Scope}
theorem BinD.add_list {ds es : List D} (hz : ds.length + es.length ≤ sizeLine) : BinD G n .Add (.list ds) (.list es) (.list (ds ++ es)) := fun ok A s E va vb r k f ra rb => by
  cases ra with
  | @list a vs _ o l rs =>
    cases rb with
    | @list b ws _ o2 l2 rs2 =>
      obtain ⟨⟨cls, dd, data, sl⟩, ho, hc, m, hd⟩ := id l
      obtain ⟨⟨cls2, dd2, data2, sl2⟩, ho2, hc2, m2, hd2⟩ := id l2
      simp only at hc hd hc2 hd2
      subst hc hd hc2 hd2
      have e : vs.toArray ++ ws.toArray = (vs ++ ws).toArray := by simp
      refine concat_meets ⟨_, ho, rfl⟩ ⟨_, ho2, rfl⟩ noFill_list_add seq_list_add PySem.F.slot_list_add PySem.F.entry_list_add (PySem.F.args_list_add_2 _ _) (list_addW a b vs.toArray ws.toArray m m2 dd dd2 sl sl2 (by simpa [rs.length, rs2.length] using hz)) ⟨ho, ho2, ?_⟩
      rw [e]
      have st : Stp G.base s { s with heap := s.heap.push { cls := .type "list", data := .seq (vs ++ ws).toArray }, toks := s.toks } := .push
      exact ⟨st, .list (f _ fresh_get) ⟨_, Heap.get?_push_size _ rfl, rfl, _, rfl⟩ ((rs.stp st).append (rs2.stp st))⟩
/-- list(x): a new one -/
theorem EvF.listOf {e : Expr} {p pos : Pos} {d : D} {ds : List D} (hk : env.kindOf "list" = some .globalImplicit) (hg : G.mg "list" = none) (h : Ev G n env σ e d) (hd : d = .list ds ∨ d = .tuple ds) (hz : ds.length ≤ sizeLine)
    (hns : noStar [e] = true := by rfl) (hplain : (backTo pos (starEach [e] env)).any (·.1) = false := by rfl) (he : starEach [e] env = (false, eval e env) :: starEach [] env := by rfl) :
    EvF G n env σ (.Call (.Name "list" p) [e] [] pos) ds := fun ok A s E r kb i => by
  have hb : Ev G n env σ (.Name "list" p) (.raw (.type "list")) := Ev.builtin hk hg (by rfl)
  refine Call_ (wpAny_mono (hb ok A s E r kb i) (fun v s₁ p₁ => ?_) fun _ _ x => x)
  obtain ⟨st, rp⟩ := p₁
  cases rp
  have kb₁ := st.ext.base kb
  refine callWith_callee (G := G) (.type _) hplain (wpAny_mono ((EvL.cons h .nil he : EvL G n env σ [e] [d]) ok A s₁ E pos r kb₁ (i.ext st.ext)) (fun vs s₂ p₂ => ⟨p₂.1.ext.base kb₁, ?_⟩) fun _ _ x => x) hns
  obtain ⟨st₂, rs⟩ := p₂
  have st12 := st.trans st₂
  cases rs with
  | cons ra rs =>
    cases rs
    have go : ∀ {a : Addr} {o : Obj} {T : String} {ws : List Value} {m : Nat}, (T = "list" ∨ T = "tuple") → s₂.heap.get? a = some o → o.cls = .type T → o.data = .seq ws.toArray m → RepAll (okO ok σ) s₂.heap ws ds →
        wpAny G.M A (call (.type "list") [.ref a]) (fun v s' => Stp G.base s s' ∧ ∃ a vs, v = .ref a ∧ s.heap.get? a = none ∧ OwnL s'.heap a vs ∧ RepAll (fun b => okO ok σ b ∧ b ≠ a) s'.heap vs ds) E s₂ := fun hT ho hc hdt ra => by
      refine call_list_seq (hsz := by rw [List.size_toArray, ra.length]; exact hz) _ hT ho hc hdt fun h' c' hkp hD => ?_
      have st₃ : Stp G.base s₂ { s₂ with heap := h' } := ⟨.of_stays hkp, rfl, .refl⟩
      refine ⟨st12.trans st₃, s₂.heap.objs.size, _, rfl, st12.ext.none fresh_get, ⟨c', hD⟩, ra.ext st₃.ext fun b q z => ⟨q, fun e => ?_⟩⟩
      rw [e, fresh_get] at z; cases z
    rcases hd with rfl | rfl
    · cases ra with
      | list o l ra => obtain ⟨ob, ho, hc, m, hdt⟩ := l; exact go (.inl rfl) ho hc hdt ra
    · cases ra with
      | tuple o l ra => obtain ⟨ob, ho, hc, m, hdt⟩ := l; exact go (.inr rfl) ho hc hdt ra
end
end Mine
end
section
open PySem PySem.W PyProof.Rows PySem.Calls
set_option maxRecDepth 100000
namespace Mine
section
variable {G : Gr} {n : Nat} {env : Env} {σ : St} {sc : Scope}
theorem pys_any (ds : List D) (d : D) : ((D.pys ds).any fun y => PyData.eqv y d.py) = ds.any fun y => y.eqb d := by
  induction ds with
  | nil => rfl
  | cons a r ih => rw [D.pys, List.any_cons, List.any_cons, ih]; rfl
theorem CmpD.in_list {ds : List D} {d : D} {k : Nat} (hl : (D.list ds).data k = true) (hd : d.data k = true) (hk : k ≤ 400) : CmpD G n .In d (.list ds) (ds.any fun y => y.eqb d) := fun ok A s E va vb r kb f ra rb => by
  obtain ⟨as, qa⟩ := rep_reads k ra hd
  obtain ⟨bs, qb⟩ := rep_reads k rb hl
  have la := data_lay k d hd
  cases k with
  | zero => cases hl
  | succ k =>
    have lb := datas_lay k ds (by simpa [D.data] using hl)
    have hm : min (PyData.depthAll (D.pys ds)) d.py.depth ≤ k := Nat.le_trans (Nat.min_le_left _ _) lb.2
    exact SeqAt.in_list_reads qb qa lb.1 la.1 (by have := r.units; omega) ⟨.refl, by rw [pys_any]⟩
theorem CmpD.notIn_list {ds : List D} {d : D} {k : Nat} (hl : (D.list ds).data k = true) (hd : d.data k = true) (hk : k ≤ 400) : CmpD G n .NotIn d (.list ds) (!ds.any fun y => y.eqb d) := fun ok A s E va vb r kb f ra rb => by
  obtain ⟨as, qa⟩ := rep_reads k ra hd
  obtain ⟨bs, qb⟩ := rep_reads k rb hl
  have la := data_lay k d hd
  cases k with
  | zero => cases hl
  | succ k =>
    have lb := datas_lay k ds (by simpa [D.data] using hl)
    have hm : min (PyData.depthAll (D.pys ds)) d.py.depth ≤ k := Nat.le_trans (Nat.min_le_left _ _) lb.2
    exact SeqAt.notIn_list_reads qb qa lb.1 la.1 (by have := r.units; omega) ⟨.refl, by rw [pys_any]⟩
theorem IdxD.tuple {ds : List D} {i : Int} {d : D} (h0 : 0 ≤ i) (h1 : i < 2 ^ 62) (h : ds[i.toNat]? = some d) : IdxD G n (.tuple ds) (.int i) d := fun ok A s E vo vi r k f ro ri => by
  cases ri
  cases ro with
  | tuple o l rs =>
    obtain ⟨v, hv, rv⟩ := rs.get h
    have hlt : i.toNat < ds.length := (List.getElem?_eq_some_iff.mp h).1
    refine getItem_tuple l (by omega) (by omega) (j := i.toNat) ?_ (by simpa using hv) ⟨.refl, rv⟩
    unfold seqIndex?
    rw [List.size_toArray, rs.length]
    simp only [show ¬ i < 0 by omega, if_false]
    rw [if_pos (by simp only [Bool.and_eq_true, decide_eq_true_eq]; omega)]
end
end Mine
end
section
open PySem PySem.W PyProof.Rows PySem.Calls
set_option maxRecDepth 100000
namespace Mine
section
variable {G : Gr} {n : Nat} {env : Env} {σ : St} {sc : Scope}
theorem FEnv.swaps {env : Env} {sc : Scope} {e : Expr} {t : Option Expr} {l : Nat} {b : Bool} (FE : FEnv env sc) (h : ∀ env' : Env, swapsWith e t l { env' with scope := sc } = pure b) : swapsWith e t l env = pure b := by
  have : env = { env with scope := sc } := by rw [← FE.scope]
  rw [this]; exact h env
theorem Sub.set {x : Str} {s : Slot} : ∀ {σ₀ σ₁ : St}, Sub σ₀ σ₁ → x ∉ σ₀.map (·.1) → Sub σ₀ (setS x s σ₁)
  | [], _, _, _ => trivial
  | (y, t) :: r, σ₁, h, k => by
    rw [List.map_cons, List.mem_cons, not_or] at k
    exact ⟨by rw [lookup_setS_ne (Ne.symm k.1)]; exact h.1, Sub.set h.2 k.2⟩
def nums (js : List Nat) : List D := js.map fun j => .int (j : Nat)
theorem rng_nums (m : Nat) : rngList 0 (m : Int) = nums (List.range m) := by
  unfold rngList nums
  rw [Int.sub_zero, Int.toNat_natCast]
  refine List.map_congr_left fun i _ => ?_
  rw [Int.zero_add]
theorem pickD_rev {α : Type} (ds : List α) : pickD ds none none (some (-1)) = ds.reverse := by
  have hb : sliceBounds none none (some (-1)) ds.length = ((ds.length : Int) - 1, -1, -1) := by
    simp [sliceBounds]
  unfold pickD
  rw [hb]
  unfold sliceRange
  simp only [show ¬ ((-1 : Int) > 0) by decide, if_false]
  have hc : (if (ds.length : Int) - 1 > -1 then ((ds.length : Int) - 1 - -1 - -1 - 1) / (- -1) else 0).toNat = ds.length := by
    split <;> simp at * <;> omega
  rw [hc]
  apply List.ext_getElem?
  intro i
  by_cases hi : i < ds.length
  · have hf : ((List.range ds.length).map fun (k : Nat) => ((ds.length : Int) - 1 + -1 * (k : Int)).toNat).filterMap (ds[·]?) = ((List.range ds.length).map fun (k : Nat) => (ds.length - 1 - k)).filterMap (ds[·]?) := by
      congr 1
      refine List.map_congr_left fun k hk => ?_
      have := List.mem_range.mp hk; omega
    rw [hf]
    have hg : ((List.range ds.length).map fun (k : Nat) => (ds.length - 1 - k)).filterMap (ds[·]?) = ds.reverse := by
      apply List.ext_getElem?
      intro i
      have key : ∀ (js : List Nat), (∀ j ∈ js, j < ds.length) → ∀ i : Nat, (js.filterMap (ds[·]?))[i]? = (js[i]?).bind (ds[·]?) := by
        intro js
        induction js with
        | nil => intro _ i; simp
        | cons j js ih =>
          intro h i
          have hj := h j (.head _)
          rw [List.filterMap_cons, List.getElem?_eq_getElem hj]
          cases i with
          | zero => simp [List.getElem?_eq_getElem hj]
          | succ i => simpa using ih (fun k hk => h k (.tail _ hk)) i
      rw [key _ (fun j hj => by obtain ⟨k, hk, rfl⟩ := List.mem_map.mp hj; have := List.mem_range.mp hk; omega)]
      by_cases hi : i < ds.length
      · rw [List.getElem?_map, List.getElem?_range hi, List.getElem?_reverse hi]; rfl
      · rw [List.getElem?_eq_none (by simp; omega), List.getElem?_eq_none (by simp; omega)]; rfl
    rw [hg]
  · rw [List.getElem?_eq_none (Nat.le_trans (List.length_filterMap_le _ _) (by simp; omega)), List.getElem?_eq_none (by simp; omega)]
end
end Mine
end
section
open PySem PySem.W PyProof.Rows PySem.Calls
set_option maxRecDepth 100000
namespace Mine
/-- does a text end behind a backslash -/
def ends : Bool → List Nat → Bool
  | b, [] => b
  | true, _ :: r => ends false r
  | false, c :: r => if c = 92 then ends true r else ends false r
end Mine
end
section
open PySem PySem.W PyProof.Rows PySem.Calls
set_option maxRecDepth 100000
namespace Mine
def stepB (st : Option Int) (t : List Nat) : Option Int := openStep st (0, t)
/-- what is seen of the brackets: a flag hides -/
def stepV (st : Option Int) (p : List Nat) (h : Bool) : Option Int := if h then st else stepB st p
def seen (P : List (List Nat)) (fl : List Bool) (i : Nat) : Option Int := (List.range i).foldl (fun st j => stepV st (P.getD j []) (fl.getD j false)) (some 0)
def marks (l : List Bool) (js : List Nat) : List Bool := js.foldl (fun l j => l.set j true) l
/-- the sum of what is seen -/
def val (p : List Nat) (h : Bool) : Int := if h then 0 else if p = [40] then 1 else if p = [41] then -1 else 0
def total (P : List (List Nat)) (fl : List Bool) : Nat → Int
  | 0 => 0
  | i + 1 => total P fl i + val (P.getD i []) (fl.getD i false)
end Mine
end
section
open PySem PySem.W PyProof.Rows PySem.Calls
set_option maxRecDepth 100000
namespace Mine
/-- the frame and those below it -/
def HS (base : Heap) (env : Env) (l : List Env) : Around → Heap → Prop := fun A h => A.frames = some (env :: l) ∧ env.frame = some env.locals ∧
  ∀ env' ∈ l, env'.scope.kind = .function ∧ ∃ L m, env'.frame = some L ∧ base.get? L = none ∧ h.Ns L m ∧ L ≠ env.locals
def fpS (l : List Env) : Addr → Prop := fun b => ∃ env' ∈ l, env'.frame = some b
theorem ns_same {base h h' : Heap} {b : Addr} {m : Str → Option Value} (k : Same1 base h h' b) (n : h.Ns b m) : h'.Ns b m := by
  obtain ⟨o, es, ep, e, d, r⟩ := n
  obtain ⟨o', e', _, d', _⟩ := k o e
  exact ⟨o', es, ep, e', d'.trans d, r⟩
theorem rdS {base : Heap} {env : Env} {l : List Env} : Rd base env (fpS l) (HS base env l) where
  keep := fun A h h' ⟨a, b, c⟩ k => ⟨a, b, fun e he => let ⟨c1, L, m, c2, c3, c4, c5⟩ := c e he; ⟨c1, L, m, c2, c3, ns_same (k L ⟨e, he, c2⟩) c4, c5⟩⟩
  apart := fun A h ⟨a, b, c⟩ F x ⟨e, he, hx⟩ => by
    obtain ⟨c1, L, m, c2, c3, c4, c5⟩ := c e he
    rw [hx] at c2; cases c2
    obtain ⟨o, es, ep, e1, d1, _⟩ := c4
    refine ⟨by rw [e1]; rfl, ?_, ?_⟩
    · rintro (w | ⟨y, w⟩)
      · exact c5 w
      · obtain ⟨v, o2, e2, d2⟩ := F.cells y _ w
        rw [e1] at e2; cases e2; rw [d1] at d2; cases d2
    · rintro vs ⟨k, e2⟩
      rw [e1] at e2; cases e2; cases d1
section
variable {G : Gr} {n : Nat}
section
variable {env : Env} {σ : St} {fp : Addr → Prop} {H : Around → Heap → Prop} {X : String} {msg : Str}
end
end
end Mine
end
section
open PySem PySem.W PyProof.Rows PySem.Calls
set_option maxRecDepth 100000
namespace Mine
theorem rep_flat (l : List Nat) : ∀ (n : Nat) (acc : Array Nat), ((List.replicate n l.toArray).foldl (· ++ ·) acc) = acc ++ (List.replicate n l).flatten.toArray
  | 0, acc => by simp
  | n + 1, acc => by rw [List.replicate_succ, List.foldl_cons, rep_flat l n, List.replicate_succ, List.flatten_cons]; simp
section
variable {G : Gr} {n : Nat} {env : Env} {σ : St} {sc : Scope}
theorem BinD.mul_str {l : List Nat} {k : Int} (h0 : 0 ≤ k) (h1 : k ≤ 100000) (h2 : l.length ≤ 100) : BinD G n .Mult (.str (S l)) (.int k) (.str (S (List.replicate k.toNat l).flatten)) := fun ok A s E va vb r kb f ra rb => by
  cases ra; cases rb
  refine P.mul_str (by rw [decide_eq_false (by omega), decide_eq_false (by omega)]; rfl) (fun h _ => ?_) (fun h _ => ?_) ?_
  · rw [S_length]
    have : (100 : Int) ≤ (2 ^ 63 - 1) / k := by
      rw [Int.le_ediv_iff_mul_le (by omega)]; omega
    omega
  · rw [S_length]
    unfold Builtin.Str.tooLong sizeLine
    have : l.length * k.toNat ≤ 100 * 100000 := Nat.mul_le_mul h2 (by omega)
    simp; omega
  · split
    · have : k.toNat = 0 := by omega
      rw [this]
      exact ⟨by decide, .tok, .str _ _⟩
    · split
      · rename_i hk h1'
        rw [S_length] at h1'
        have e : S (List.replicate k.toNat l).flatten = S l := by
          rcases Bool.or_eq_true_iff.mp h1' with z | z
          · have : k.toNat = 1 := by have := beq_iff_eq.mp z; omega
            rw [this]; simp
          · have : l = [] := List.eq_nil_of_length_eq_zero (by simpa using z)
            rw [this]; simp
        rw [e]
        exact ⟨.refl, .str _ _⟩
      · have e := rep_flat l k.toNat #[]
        refine ⟨?_, ?_⟩
        · show ((List.replicate k.toNat (S l).cps).foldl (· ++ ·) #[]).size ≤ sizeLine
          rw [show (S l).cps = l.toArray from rfl, e]
          simp only [Array.empty_append, List.size_toArray]
          rw [List.length_flatten]
          simp only [List.map_replicate, List.sum_replicate_nat]
          have : k.toNat * l.length ≤ 100000 * 100 := Nat.mul_le_mul (by omega) h2
          unfold sizeLine; omega
        · refine ⟨.tok, ?_⟩
          rw [show (S l).cps = l.toArray from rfl, e]
          simp only [Array.empty_append]
          exact .str _ _
end
end Mine
end
section
open PySem PySem.W PyProof.Rows PySem.Calls
set_option maxRecDepth 100000
namespace Mine
section
variable {G : Gr} {n : Nat} {env : Env} {σ : St}
def pairL (xs ys : List D) : List D := List.zipWith (fun a b => .tuple [a, b]) xs ys
theorem RepAll.getV {ok : Addr → Prop} {h : Heap} : ∀ {vs : List Value} {ds : List D} {i : Nat} {v : Value}, RepAll ok h vs ds → vs[i]? = some v → ∃ d, ds[i]? = some d ∧ Rep ok h v d
  | _, _, i, v, .nil, e => by simp at e
  | _, _, 0, v, .cons r _, e => by simp at e; subst e; exact ⟨_, rfl, r⟩
  | _, _, i + 1, v, .cons _ rs, e => by simp at e; simpa using rs.getV e
theorem ItrX.zip {A : Around} {ok : Addr → Prop} {elts : List Expr} {k : Nat} {pos : Pos} {z TI TO i1 i2 l1 l2 : Addr} {v1 v2 : List Value} {xs ys : List D} (hh : A.handled = none) (D : ZipApart z TI TO i1 i2 l1 l2) (hx : v1.length = xs.length) (hy : v2.length = ys.length)
    (o1 : ok l1) (o2 : ok l2) (oT : ¬ ok TO) :
    ItrX G A ok (· = TO) (.Tuple elts k pos) z (pairL xs ys) (· ∈ [z, TI, TO, i1, i2]) (· ∈ [z, TO, i1, i2]) (fun _ => False)
      (fun i s => (IsZip s.heap z TI TO .none ∧ IsPair s.heap TI (.ref i1) (.ref i2) ∧ (∃ a b, IsPair s.heap TO a b) ∧ s.heap.IsListIter i1 l1 i ∧ s.heap.IsListIter i2 l2 i ∧ s.heap.IsList l1 v1.toArray ∧ s.heap.IsList l2 v2.toArray) ∧ RepAll ok s.heap v1 xs ∧ RepAll ok s.heap v2 ys) where
  frame := fun i s s' W' hs mv hf hn => by
    have W := WalksT.zip2 (prog := G.prog) (w := G.w) hh z TI TO i1 i2 l1 l2 D v1.toArray v2.toArray
    obtain ⟨hs0, r1, r2⟩ := hs
    refine ⟨W.frame i s.heap s'.heap hs0 fun b hb o e => ?_, r1.extBut mv.ext hn fun _ q _ => q, r2.extBut mv.ext hn fun _ q _ => q⟩
    obtain ⟨hz, hTI, ⟨a, b', hTO⟩, ⟨oi1, e1, c1, d1⟩, ⟨oi2, e2, c2, d2⟩, hl1, hl2⟩ := hs0
    have go : ∀ ob : Obj, s.heap.get? b = some ob → b ∈ [z, TI, TO, i1, i2] → isDict ob.data = false → s'.heap.get? b = some o := fun ob eb hb' hd => by
      rw [eb] at e; cases e
      obtain ⟨o', e', _, _, k'⟩ := mv.ext b _ (hf b hb') eb
      rw [e', k' (.inr hd)]
    simp only [List.mem_cons, List.not_mem_nil, or_false] at hb
    rcases hb with rfl | rfl | rfl | rfl | rfl | rfl | rfl
    · exact go _ hz (by simp) rfl
    · exact go _ hTI (by simp) rfl
    · exact go _ hTO (by simp) rfl
    · exact go _ e1 (by simp) (by rw [d1]; rfl)
    · exact go _ e2 (by simp) (by rw [d2]; rfl)
    · exact node_keep mv.ext (.list hl1) (hn _ o1 (.list hl1)) e
    · exact node_keep mv.ext (.list hl2) (hn _ o2 (.list hl2)) e
  node := fun i s a hs ha => by
    obtain ⟨⟨hz, hTI, ⟨a', b', hTO⟩, ⟨oi1, e1, c1, d1⟩, ⟨oi2, e2, c2, d2⟩, hl1, hl2⟩, _⟩ := hs
    simp only [List.mem_cons, List.not_mem_nil, or_false] at ha
    rcases ha with rfl | rfl | rfl | rfl
    · exact ⟨fun _ => not_node hz rfl rfl, by rw [hz]; rfl⟩
    · exact ⟨fun q => absurd rfl q, by rw [hTO]; rfl⟩
    · exact ⟨fun _ => not_node e1 c1 rfl, by rw [e1]; rfl⟩
    · exact ⟨fun _ => not_node e2 c2 rfl, by rw [e2]; rfl⟩
  item := fun i d s E ok' hd hs kb hok hfr => by
    have W := WalksT.zip2 (prog := G.prog) (w := G.w) hh z TI TO i1 i2 l1 l2 D v1.toArray v2.toArray
    obtain ⟨hs0, r1, r2⟩ := hs
    have hlt : i < min v1.toArray.size v2.toArray.size := by
      have := (List.getElem?_eq_some_iff.mp hd).1
      simp only [pairL, List.length_zipWith] at this
      simp; omega
    refine W.item i s _ E hlt hs0 fun T vals h' tk hp hT ht hmid hk => ?_
    refine ⟨_, rfl, W.go elts k pos i T _ _ E hmid fun h'' hst hk' => ?_⟩
    have hTw := W.apart i T h' hmid
    have mi : MvI G.base (· ∈ [z, TO, i1, i2]) (fun _ => False) s { s with heap := h'', toks := tk } := .of_keepL fun b o w e => hk' b o w (hk b o w e)
    have nn : ∀ a, ok a → IsNode s.heap a → ¬ a ∈ [z, TO, i1, i2] := fun a q nd ha => by
      obtain ⟨hz, hTI, ⟨a', b', hTO⟩, ⟨oi1, e1, c1, d1⟩, ⟨oi2, e2, c2, d2⟩, hl1, hl2⟩ := hs0
      simp only [List.mem_cons, List.not_mem_nil, or_false] at ha
      rcases ha with rfl | rfl | rfl | rfl
      · exact not_node hz rfl rfl nd
      · exact oT q
      · exact not_node e1 c1 rfl nd
      · exact not_node e2 c2 rfl nd
    have rs1 : RepAll ok h'' v1 xs := r1.extBut mi.ext nn fun _ q _ => q
    have rs2 : RepAll ok h'' v2 ys := r2.extBut mi.ext nn fun _ q _ => q
    obtain ⟨x, y, ex, ey, rfl⟩ := hp
    obtain ⟨dx, hdx, rx⟩ := rs1.getV (i := i) (by simpa using ex)
    obtain ⟨dy, hdy, ry⟩ := rs2.getV (i := i) (by simpa using ey)
    have hdd : d = .tuple [dx, dy] := by
      simp only [pairL, List.getElem?_zipWith, hdx, hdy] at hd
      exact (Option.some.inj hd).symm
    subst hdd
    have hTf : s.heap.get? T = none := by
      cases q : s.heap.get? T with
      | none => rfl
      | some o => exact absurd (Heap.lt_size q) (Nat.not_lt.mpr hT)
    refine ⟨.tuple (vs := [x, y]) (hfr T hTf) ?_ ((RepAll.cons rx (.cons ry .nil)).weak hok), ⟨hst, rs1, rs2⟩, mi⟩
    obtain ⟨o, e, c, n', dd⟩ := ht
    exact ⟨o, hk' T o hTw e, c, n', by simpa using dd⟩
  done := fun s E hs kb => by
    have W := WalksT.zip2 (prog := G.prog) (w := G.w) hh z TI TO i1 i2 l1 l2 D v1.toArray v2.toArray
    have hm : min v1.toArray.size v2.toArray.size = (pairL xs ys).length := by simp [pairL, hx, hy]
    exact W.done s _ E (hm ▸ hs.1) fun h' tk hk => ⟨rfl, .of_keepL hk⟩
theorem lt_sizeN {h : Heap} {a : Nat} {o : Obj} (e : h.get? a = some o) : @LT.lt Nat _ a h.objs.size := Heap.lt_size e
theorem zipApart (N l1 l2 : Nat) (h1 : @LT.lt Nat _ l1 N) (h2 : @LT.lt Nat _ l2 N) : ZipApart (N + 4) (N + 2) (N + 3) N (N + 1) l1 l2 := by constructor <;> exact fun (q : @Eq Nat _ _) => by omega
theorem boot_zip : bootBuiltins "zip" = some (.type "zip") := by first | rfl | kernel_rfl
theorem EvIX.zip {e1 e2 : Expr} {p pos tp : Pos} {ts : List Expr} {k : Nat} {xs ys : List D} (hk : env.kindOf "zip" = some .globalImplicit) (hg : G.mg "zip" = none) (h1 : Ev G n env σ e1 (.list xs)) (h2 : Ev G n env σ e2 (.list ys))
    (hns : noStar [e1, e2] = true := by rfl) (hplain : (backTo pos (starEach [e1, e2] env)).any (·.1) = false := by rfl) (he : starEach [e1, e2] env = (false, eval e1 env) :: starEach [e2] env := by rfl) (he2 : starEach [e2] env = (false, eval e2 env) :: starEach [] env := by rfl) :
    EvIX G n env σ (.Call (.Name "zip" p) [e1, e2] [] pos) (.Tuple ts k tp) (pairL xs ys) := fun ok A s E r kb i => by
  have hb : Ev G n env σ (.Name "zip" p) (.raw (.type "zip")) := Ev.builtin hk hg boot_zip
  refine Call_ (wpAny_mono (hb ok A s E r kb i) (fun v s₁ p₁ => ?_) fun _ _ x => x)
  obtain ⟨st, rp⟩ := p₁
  cases rp
  have kb₁ := st.ext.base kb
  refine callWith_callee (G := G) (.type _) hplain (wpAny_mono ((EvL.cons h1 (.cons h2 .nil he2) he : EvL G n env σ [e1, e2] [.list xs, .list ys]) ok A s₁ E pos r kb₁ (i.ext st.ext)) (fun vs s₂ p₂ => ⟨p₂.1.ext.base kb₁, ?_⟩) fun _ _ x => x) hns
  obtain ⟨st₂, rs⟩ := p₂
  have st12 := st.trans st₂
  cases rs with
  | cons ra rs =>
    cases rs with
    | cons rb rs =>
      cases rs
      cases ra with
      | @list l1 v1 _ o1 hl1 r1 =>
        cases rb with
        | @list l2 v2 _ o2 hl2 r2 =>
          refine call_zip_2 hl1 hl2 fun h' hz hTI hTO hi1 hi2 hsz hkp => ?_
          have lt1 : @LT.lt Nat _ l1 s₂.heap.objs.size := by obtain ⟨o, e, _⟩ := hl1; exact lt_sizeN e
          have lt2 : @LT.lt Nat _ l2 s₂.heap.objs.size := by obtain ⟨o, e, _⟩ := hl2; exact lt_sizeN e
          generalize hN : s₂.heap.objs.size = N at *
          have D : ZipApart (N + 4) (N + 2) (N + 3) N (N + 1) l1 l2 := zipApart N l1 l2 lt1 lt2
          have W := WalksT.zip2 (prog := G.prog) (w := G.w) (A := A) r.handled (N + 4) (N + 2) (N + 3) N (N + 1) l1 l2 D v1.toArray v2.toArray
          have st₃ : Stp G.base s₂ { s₂ with heap := h' } := ⟨.of_stays hkp, rfl, .refl⟩
          have hst : IsZip h' (N + 4) (N + 2) (N + 3) .none ∧ IsPair h' (N + 2) (.ref N) (.ref (N + 1)) ∧ (∃ a b, IsPair h' (N + 3) a b) ∧ h'.IsListIter N l1 0 ∧ h'.IsListIter (N + 1) l2 0 ∧ h'.IsList l1 v1.toArray ∧ h'.IsList l2 v2.toArray := ⟨hz, hTI, ⟨_, _, hTO⟩, hi1, hi2, st₃.ext.list hl1, st₃.ext.list hl2⟩
          refine W.self 0 { s₂ with heap := h' } _ _ hst ?_
          have hf0 : ∀ a : Nat, @LE.le Nat _ N a → s.heap.get? a = none := fun a ha => by
            cases q : s₂.heap.get? a with
            | none => exact st12.ext.none q
            | some o => have := lt_sizeN q; omega
          have old : ∀ a, (s₂.heap.get? a).isSome = true → (h'.get? a).isSome = true ∧ a ≠ N + 3 := fun a q => by
            obtain ⟨o, e⟩ := Option.isSome_iff_exists.mp q
            refine ⟨by rw [hkp a o e]; rfl, fun (z : @Eq Nat _ _) => ?_⟩
            have := lt_sizeN e; omega
          have some1 : (s₂.heap.get? l1).isSome = true := by obtain ⟨o, e, _⟩ := hl1; rw [e]; rfl
          have some2 : (s₂.heap.get? l2).isSome = true := by obtain ⟨o, e, _⟩ := hl2; rw [e]; rfl
          refine ⟨st12.trans st₃, N + 4, (· ∈ [N + 4, N + 2, N + 3, N, N + 1]), (· ∈ [N + 4, N + 3, N, N + 1]), fun _ => False, _, (· = N + 3), rfl,
            ItrX.zip (v1 := v1) (v2 := v2) r.handled D r1.length r2.length ⟨o1, (old _ some1).1, (old _ some1).2⟩ ⟨o2, (old _ some2).1, (old _ some2).2⟩ (fun q => q.2.2 rfl), ⟨hst, r1.ext st₃.ext fun a q z => ⟨q, old a z⟩, r2.ext st₃.ext fun a q z => ⟨q, old a z⟩⟩, ?_, ?_, ?_, fun g hg => hg.elim⟩
          · intro a ha
            simp only [List.mem_cons, List.not_mem_nil, or_false] at ha
            refine ⟨?_, fresh_not_wr i (hf0 a (by rcases ha with rfl | rfl | rfl | rfl | rfl <;> (show @LE.le Nat _ _ _; omega)))⟩
            obtain ⟨oi1, e1, _⟩ := hi1
            obtain ⟨oi2, e2, _⟩ := hi2
            show (h'.get? a).isSome = true
            rcases ha with rfl | rfl | rfl | rfl | rfl
            · rw [hz]; rfl
            · rw [hTI]; rfl
            · rw [hTO]; rfl
            · rw [e1]; rfl
            · rw [e2]; rfl
          · intro a ha
            simp only [List.mem_cons, List.not_mem_nil, or_false] at ha
            refine ⟨hf0 a (by rcases ha with rfl | rfl | rfl | rfl <;> (show @LE.le Nat _ _ _; omega)), ?_⟩
            rcases ha with rfl | rfl | rfl | rfl <;> simp
          · rintro a rfl
            simp
end
end Mine
end
section
open PySem PySem.W PyProof.Rows PySem.Calls
set_option maxRecDepth 100000
namespace Mine
section
variable {G : Gr} {n : Nat} {env : Env} {σ : St} {H : Around → Heap → Prop}
theorem ints_of {ok : Addr → Prop} {h : Heap} : ∀ {vs : List Value} {ns : List Int}, RepAll ok h vs (ns.map .int) → IntsAre vs ns
  | _, [], r => by cases r; exact .nil
  | _, n :: ns, r => by
    cases r with | cons a r => cases a with | int i t => exact .cons _ _ (ints_of r)
end
end Mine
end
section
open PySem PySem.W PyProof.Rows PySem.Calls
set_option maxRecDepth 100000
namespace Mine
theorem ude_new : ExcNewFacts "UnicodeDecodeError" "UnicodeDecodeError.__new__" where
  ends := by decide +kernel
  owner := by decide +kernel
  entry := entryFor_alias (id' := "BaseException.__new__") (by rw [fastTable_eq_tree]; kernel_rfl) (by first | rfl | decide +kernel) (by decide +kernel) (by rw [fastTable_eq_tree]; kernel_rfl)
  sub := by rw [isSubtype_type]; kernel_rfl
  notAttr := by rw [isSubtype_type]; kernel_rfl
  notName := by rw [isSubtype_type]; kernel_rfl
  made := by kernel_rfl
theorem ude_mro : mroOf (.type "UnicodeDecodeError") = pure [.type "UnicodeDecodeError", .type "UnicodeError", .type "ValueError", .type "Exception", .type "BaseException", .type "object"] := by rw [mroOf_type]; kernel_rfl
theorem ude_lookup_new : typeLookup (.type "UnicodeDecodeError") "__new__" = pure (some (.builtin "UnicodeDecodeError.__new__")) := by rw [typeLookup_type, builtinLookup_eq_fast]; kernel_rfl
theorem ude_slot_init : PySem.Slot "UnicodeDecodeError" "__init__" "UnicodeDecodeError.__init__" :=
  .of (owner := "UnicodeDecodeError") (n := "__init__") (by rw [typeLookup_type, builtinLookup_eq_fast]; kernel_rfl) (by decide +kernel) (by decide +kernel) (by decide +kernel)
    (by first | exact .inl (by decide +kernel) | exact .inr (by decide +kernel)) (by rw [isSubtype_type]; kernel_rfl)
theorem ude_called : TypeCalled "UnicodeDecodeError" "UnicodeDecodeError.__new__" "UnicodeDecodeError.__init__" :=
  ⟨by decide +kernel, by decide +kernel, ⟨_, _, ude_mro⟩, madeBy_type ude_mro ude_lookup_new (by decide +kernel), by decide +kernel, by rw [isSubtype_type]; kernel_rfl, ude_slot_init⟩
theorem ude_typeCall (a b c d e : Value) : checkTypeCall "UnicodeDecodeError" ⟨[a, b, c, d, e], []⟩ = pure () := by kernel_rfl
theorem ude_newCall (a b c d e : Value) : checkBuiltinCall "UnicodeDecodeError.__new__" ⟨[.type "UnicodeDecodeError", a, b, c, d, e], []⟩ = pure () := by kernel_rfl
theorem ude_plain : plainId "UnicodeDecodeError.__new__" = true := by decide +kernel
theorem ude_entry_init : entryFor table "UnicodeDecodeError.__init__" = some Builtin.«UnicodeDecodeError.__init__» := by first | exact entryFor_of_fast (by kernel_rfl) | exact entryFor_of_tree (by kernel_rfl)
theorem ude_args (o a b c d e : Value) : argsOk "UnicodeDecodeError.__init__" ⟨[o, a, b, c, d, e], []⟩ := by unfold argsOk; kernel_rfl
end Mine
end
section
open PySem PySem.W PyProof.Rows PySem.Calls
set_option maxRecDepth 100000
namespace Mine
open Builtin.UnicodeEncodeError
/-- the exception's object -/
def udeObj (a0 enc ob st sp rs : Value) : Obj := { cls := .type "UnicodeDecodeError", data := .fields #[a0, .none, .none, .none, .bool false, .none, enc, ob, st, sp, rs] }
section
variable {M : Model} {A : Around} {E : Value → Shared → Prop} {s : Shared} {e : Addr}
theorem members_at {a0 enc ob rs : Value} {st sp : Int} {t1 t2 : Tok} {Q : Members → Shared → Prop} (he : s.heap.get? e = some (udeObj a0 enc ob (.int st t1) (.int sp t2) rs)) (h : Q ⟨enc, ob, st, sp, rs⟩ s) : wpAny M A (members (.ref e)) Q E s := by
  unfold members
  refine wpAny_bind (wpAny_fieldsOf he rfl ?_)
  exact wpAny_pure h
theorem setMembers_at {a0 enc ob rs st sp : Value} {m : Members} {Q : Unit → Shared → Prop} (he : s.heap.get? e = some (udeObj a0 enc ob st sp rs))
    (h : ∀ h', h'.get? e = some (udeObj a0 m.encoding m.object (rawInt m.start) (rawInt m.stop) m.reason) → Heap.SameBut e s.heap h' → Q () { s with heap := h' }) : wpAny M A (setMembers (.ref e) m) Q E s := by
  unfold setMembers
  refine wpAny_updateFields he rfl (h _ ?_ (Heap.SameBut.update ..)) (by show (_ : Nat) ≤ _; simp; decide)
  rw [Heap.get?_update_self _ he rfl]; rfl
def udeObj0 (a0 : Value) : Obj := { cls := .type "UnicodeDecodeError", data := .fields #[a0, .none, .none, .none, .bool false, .none] }
theorem members_at0 {a0 : Value} {Q : Members → Shared → Prop} (he : s.heap.get? e = some (udeObj0 a0)) (h : Q {} s) : wpAny M A (members (.ref e)) Q E s := by
  unfold members
  refine wpAny_bind (wpAny_fieldsOf he rfl ?_)
  exact wpAny_pure h
theorem setMembers_at0 {a0 : Value} {m : Members} {Q : Unit → Shared → Prop} (he : s.heap.get? e = some (udeObj0 a0))
    (h : ∀ h', h'.get? e = some (udeObj a0 m.encoding m.object (rawInt m.start) (rawInt m.stop) m.reason) → Heap.SameBut e s.heap h' → Q () { s with heap := h' }) : wpAny M A (setMembers (.ref e) m) Q E s := by
  unfold setMembers
  refine wpAny_updateFields he rfl (h _ ?_ (Heap.SameBut.update ..)) (by show (_ : Nat) ≤ _; simp; decide)
  rw [Heap.get?_update_self _ he rfl]; rfl
theorem strArg {id : String} {i : Nat} {x : Str} {t : Tok} {Q : Unit → Shared → Prop} (h : Q () s) : wpAny M A (strArgument id i (.str x t)) Q E s := by
  unfold strArgument
  exact wpAny_bind (wpAny_of_eq (a := some x) rfl (wpAny_pure h))
theorem sizeArg {id : String} {i : Int} {t : Tok} {Q : Int → Shared → Prop} (h0 : 0 ≤ i) (h1 : i < 2 ^ 62) (h : Q i s) : wpAny M A (sizeArgument id (.int i t)) Q E s := by
  unfold sizeArgument
  refine wpAny_bind (wpAny_of_eq (a := i) rfl ?_)
  rw [if_neg (by simp; omega)]
  exact wpAny_pure h
theorem SameBut.trans' {a : Addr} {h1 h2 h3 : Heap} (x : Heap.SameBut a h1 h2) (y : Heap.SameBut a h2 h3) : Heap.SameBut a h1 h3 := ⟨y.1.trans x.1, fun b hb => (y.2 b hb).trans (x.2 b hb)⟩
theorem ude_init {t0 : Addr} {enc rs : Str} {b : Array UInt8} {st sp : Int} {t1 t2 t3 t4 t5 : Tok} {Q : Fin → Shared → Prop} (he : s.heap.get? e = some (udeObj0 (.ref t0))) (h0 : 0 ≤ st) (h1 : st < 2 ^ 62) (h2 : 0 ≤ sp) (h3 : sp < 2 ^ 62)
    (h : ∀ h' a0, h'.get? e = some (udeObj a0 (.str enc t1) (.bytes b t2) (rawInt st) (rawInt sp) (.str rs t5)) → (∀ c o, c ≠ e → s.heap.get? c = some o → h'.get? c = some o) → Q (.done (.ret .none)) { s with heap := h' }) :
    wpAny M A (Builtin.«UnicodeDecodeError.__init__» ⟨[.ref e, .str enc t1, .bytes b t2, .int st t3, .int sp t4, .str rs t5], []⟩) Q E s := by
  unfold Builtin.«UnicodeDecodeError.__init__» beginInit
  dsimp only
  refine wpAny_bind ?_
  show wpAny M A (field (.ref e) 0 >>= _) _ _ _
  refine wpAny_bind (wpAny_field he rfl rfl ?_)
  unfold newTuple
  refine wpAny_bind (wpAny_newObj_type ?_ (by show (5 : Nat) ≤ _; decide))
  have he1 : (s.heap.push { cls := .type "tuple", data := .seq #[.str enc t1, .bytes b t2, .int st t3, .int sp t4, .str rs t5] }).get? e = some (udeObj0 (.ref t0)) := Heap.get?_push_of_some _ he
  refine wpAny_bind (wpAny_setField he1 rfl (by show 0 < 6; decide) ?_)
  have hs1 : Heap.SameBut e (s.heap.push { cls := .type "tuple", data := .seq #[.str enc t1, .bytes b t2, .int st t3, .int sp t4, .str rs t5] }) ((s.heap.push { cls := .type "tuple", data := .seq #[.str enc t1, .bytes b t2, .int st t3, .int sp t4, .str rs t5] }).update e (Obj.mapFields (·.setIfInBounds 0 (.ref s.heap.objs.size)))) := Heap.SameBut.update ..
  have he2 : ((s.heap.push { cls := .type "tuple", data := .seq #[.str enc t1, .bytes b t2, .int st t3, .int sp t4, .str rs t5] }).update e (Obj.mapFields (·.setIfInBounds 0 (.ref s.heap.objs.size)))).get? e = some (udeObj0 (.ref s.heap.objs.size)) := by
    rw [Heap.get?_update_self _ he1 rfl]; rfl
  refine wpAny_bind (wpAny_letGo ?_)
  have key : ∀ h', Heap.SameBut e ((s.heap.push { cls := .type "tuple", data := .seq #[.str enc t1, .bytes b t2, .int st t3, .int sp t4, .str rs t5] }).update e (Obj.mapFields (·.setIfInBounds 0 (.ref s.heap.objs.size)))) h' → ∀ c o, c ≠ e → s.heap.get? c = some o → h'.get? c = some o := fun h' x c o hc hq =>
    (x.2 c hc).trans ((hs1.2 c hc).trans (Heap.get?_push_of_some _ hq))
  generalize ((s.heap.push { cls := .type "tuple", data := .seq #[.str enc t1, .bytes b t2, .int st t3, .int sp t4, .str rs t5] }).update e (Obj.mapFields (·.setIfInBounds 0 (.ref s.heap.objs.size)))) = H at he2 key ⊢
  generalize s.heap.objs.size = z at he2
  show wpAny M A (members (.ref e) >>= _) _ _ _
  refine wpAny_bind (members_at0 he2 (wpAny_bind (setMembers_at0 he2 fun H1 e1 x1 => wpAny_bind (wpAny_letGo ?_))))
  refine wpAny_bind (members_at e1 (wpAny_bind (setMembers_at e1 fun H2 e2 x2 => wpAny_bind (wpAny_letGo ?_))))
  refine wpAny_bind (members_at e2 (wpAny_bind (setMembers_at e2 fun H3 e3 x3 => wpAny_bind (wpAny_letGo ?_))))
  refine wpAny_pure ?_
  refine wpAny_bind (strArg ?_)
  unfold initRange
  refine wpAny_bind (wpAny_bind (sizeArg h0 h1 (wpAny_bind (members_at e3 (wpAny_bind (setMembers_at e3 fun H4 e4 x4 => wpAny_bind (sizeArg h2 h3 (wpAny_bind (members_at e4 (setMembers_at e4 fun H5 e5 x5 => ?_))))))))))
  refine wpAny_bind (strArg ?_)
  refine wpAny_bind (wpAny_of_eq (a := some b) rfl ?_)
  refine wpAny_bind (wpAny_pure ?_)
  refine wpAny_bind (wpAny_pure ?_)
  show wpAny M A (members (.ref e) >>= _) _ _ _
  refine wpAny_bind (members_at e5 (wpAny_bind (setMembers_at e5 fun H6 e6 x6 => ?_)))
  have X := SameBut.trans' x1 (SameBut.trans' x2 (SameBut.trans' x3 (SameBut.trans' x4 (SameBut.trans' x5 x6))))
  exact wpAny_pure (h H6 _ e6 (key H6 X))
end
end Mine
end
section
open PySem PySem.W PyProof.Rows PySem.Calls
set_option maxRecDepth 100000
namespace Mine
open Builtin Builtin.UnicodeEncodeError
section
variable {prog : Program} {w : World} {A : Around} {E : Value → Shared → Prop} {s : Shared} {e : Addr}
/-- the exception as it stands -/
def Ude (h : Heap) (e : Addr) (b : Array UInt8) (t : Tok) (st sp : Int) : Prop := ∃ a0 enc rs, h.get? e = some (udeObj a0 enc (.bytes b t) (rawInt st) (rawInt sp) rs)
theorem call_ude {enc rs : Str} {b : Array UInt8} {st sp : Int} {t1 t2 t3 t4 t5 : Tok} {Q : Value → Shared → Prop} (h0 : 0 ≤ st) (h1 : st < 2 ^ 62) (h2 : 0 ≤ sp) (h3 : sp < 2 ^ 62)
    (h : ∀ h' e, s.heap.get? e = none → Ude h' e b t2 st sp → (∀ c o, s.heap.get? c = some o → h'.get? c = some o) → Q (.ref e) { s with heap := h' }) :
    wpAny (model prog w) A (call (.type "UnicodeDecodeError") [.str enc t1, .bytes b t2, .int st t3, .int sp t4, .str rs t5]) Q E s := by
  refine callType_codes (Q₁ := fun obj s₁ => ∃ e t0 h', obj = .ref e ∧ s₁ = { s with heap := h' } ∧ s.heap.get? e = none ∧ h'.get? e = some (udeObj0 (.ref t0)) ∧ ∀ c o, s.heap.get? c = some o → h'.get? c = some o) ude_called (ude_typeCall _ _ _ _ _) ude_entry_init ?_ ?_
  · refine codeAny_call_builtin_code (plainId_quiet ude_plain _) (wpAny_of_eq (ude_newCall _ _ _ _ _) ?_)
    obtain ⟨hp, g, d, tk, os⟩ := s
    refine codeAny_exc_new ude_new ?_
    refine ⟨_, hp.objs.size, _, rfl, rfl, ?_, ?_, ?_⟩
    · show Heap.get? hp (hp.objs.size + 1) = none
      unfold Heap.get?
      simp
    · have := Heap.get?_push_size (hp.push { cls := .type "tuple", data := .seq [.str enc t1, .bytes b t2, .int st t3, .int sp t4, .str rs t5].toArray }) (o := udeObj0 (.ref hp.objs.size)) rfl
      rw [Heap.size_push] at this
      exact this
    · intro c o hc
      exact Heap.get?_push_of_some _ (Heap.get?_push_of_some _ hc)
  · rintro obj s₁ ⟨e, t0, h', rfl, rfl, hn, he, hk⟩
    refine ⟨⟨_, he, rfl⟩, ude_args _ _ _ _ _ _, ?_⟩
    refine ude_init he h0 h1 h2 h3 fun h'' a0 e1 k1 => ⟨rfl, ?_⟩
    exact h h'' e hn ⟨_, _, _, e1⟩ fun c o hc => k1 c o (fun z => by subst z; rw [hn] at hc; cases hc) (hk c o hc)
def repF : Value := .builtin "_codecs.lookup_error.replace_errors"
theorem rep_kind : builtinKind "_codecs.lookup_error.replace_errors" = none := by decide +kernel
theorem rep_plain : plainId "_codecs.lookup_error.replace_errors" = true := by decide +kernel
theorem rep_entry : entryFor table "_codecs.lookup_error.replace_errors" = some Builtin.«_codecs.lookup_error.replace_errors» := by first | exact entryFor_of_fast (by kernel_rfl) | exact entryFor_of_tree (by kernel_rfl)
theorem rep_args (a : Value) : argsOk "_codecs.lookup_error.replace_errors" ⟨[a], []⟩ := by unfold argsOk; kernel_rfl
theorem ude_not_uee : isSubtype (.type "UnicodeDecodeError") (.type "UnicodeEncodeError") = pure false := by rw [isSubtype_type]; kernel_rfl
theorem ude_not_ute : isSubtype (.type "UnicodeDecodeError") (.type "UnicodeTranslateError") = pure false := by rw [isSubtype_type]; kernel_rfl
theorem ude_ude : isSubtype (.type "UnicodeDecodeError") (.type "UnicodeDecodeError") = pure true := by rw [isSubtype_type]; kernel_rfl
theorem call_rep {b : Array UInt8} {t : Tok} {st sp : Int} {Q : Value → Shared → Prop} (hu : Ude s.heap e b t st sp) (hb : b.size ≠ 0) (h1 : 1 ≤ sp) (h2 : sp ≤ b.size)
    (h : ∀ t1 t2 k, Q (.ref s.heap.objs.size) { s with heap := s.heap.push { cls := .type "tuple", data := .seq #[.str ⟨#[65533]⟩ t1, .int sp t2] }, toks := k }) :
    wpAny (model prog w) A (call repF [.ref e]) Q E s := by
  obtain ⟨a0, enc, rs, he⟩ := hu
  have hT : s.TypeIs (.ref e) "UnicodeDecodeError" := ⟨_, he, rfl⟩
  refine call_function_meets (S := fun A R s' => s' = s ∧ ∀ t1 t2 k, R (.ok (.ret (.ref s.heap.objs.size))) { s with heap := s.heap.push { cls := .type "tuple", data := .seq #[.str ⟨#[65533]⟩ t1, .int sp t2] }, toks := k }) rep_kind rep_plain rep_entry (rep_args _) ?_ ⟨rfl, fun t1 t2 k => h t1 t2 k⟩
  refine .of_wp fun prog w A R s' hS => ?_
  obtain ⟨rfl, hR⟩ := hS
  unfold Builtin.«_codecs.lookup_error.replace_errors» oneArg noKeywords
  refine wpAny_bind (wpAny_bind (wpAny_pure (wpAny_pure ?_)))
  unfold _codecs.seen
  refine wpAny_bind ?_
  refine wpAny_bind (wpAny_isInstance hT ude_not_uee ?_)
  simp only [Bool.false_eq_true, if_false]
  refine wpAny_bind (wpAny_isInstance hT ude_ude ?_)
  simp only [if_true]
  refine wpAny_bind (wpAny_isInstance hT ude_not_ute ?_)
  refine wpAny_bind (wpAny_pure ?_)
  refine bm_if_false rfl ?_
  refine wpAny_bind (members_at he ?_)
  refine bm_if_false rfl ?_
  refine wpAny_bind (wpAny_pure ?_)
  refine bm_if_false (by simpa using hb) ?_
  refine wpAny_pure ?_
  refine bm_if_true rfl ?_
  unfold _codecs.answer newTuple
  have hmin : min (max sp 1) ((b.map (·.toNat)).size : Int) = sp := by rw [Array.size_map]; omega
  refine wpAny_bind ?_
  refine wpAny_mkStr (x := ⟨#[65533]⟩) ?_ (by decide)
  refine wpAny_bind (wpAny_mkInt ?_)
  refine wpAny_bind (wpAny_newObj_type ?_ (by show (2 : Nat) ≤ _; decide))
  dsimp only
  rw [hmin]
  exact wpAny_pure ⟨_, rfl, hR _ _ _⟩
end
end Mine
end
section
open PySem PySem.W PyProof.Rows PySem.Calls
set_option maxRecDepth 100000
namespace Mine
open Builtin Builtin.UnicodeEncodeError Builtin._codecs
section
variable {prog : Program} {w : World} {A : Around} {E : Value → Shared → Prop} {s : Shared} {e : Addr}
/-- what the decoder keeps between its faults -/
inductive FltAt (h₀ h : Heap) (b : Array UInt8) : Faults → Prop
  | new : FltAt h₀ h b {}
  | old {e : Addr} {t : Tok} {st sp : Int} : h₀.get? e = none → Ude h e b t st sp → FltAt h₀ h b { handler := some repF, exc := some (.ref e) }
theorem tup_tup : isSubtype (.type "tuple") (.type "tuple") = pure true := by rw [isSubtype_type]; kernel_rfl
theorem fault_step {h₀ : Heap} {id : String} {b : Array UInt8} {f : Faults} {p stop : Nat} {reason : String} {Q : Faults × Array Nat × Nat → Shared → Prop} (hF : FltAt h₀ s.heap b f) (hk : ∀ c o, h₀.get? c = some o → s.heap.get? c = some o) (hb : b.size ≤ sizeLine) (h1 : p < stop) (h2 : stop ≤ b.size) (hr : (reason : Str).length ≤ sizeLine)
    (h : ∀ f' h' k, FltAt h₀ h' b f' → (∀ c o, h₀.get? c = some o → h'.get? c = some o) → Q (f', #[65533], stop) { s with heap := h', toks := k }) :
    wpAny (model prog w) A (decodeFault id f (some "replace") ["ignore", "replace", "surrogateescape"] "utf-8" b p stop reason) Q E s := by
  have hz : b.size < 2 ^ 60 := Nat.lt_of_le_of_lt hb (by decide)
  have hheld : f.held = [] := by cases hF <;> rfl
  unfold decodeFault
  refine wpAny_bind (wpAny_mono (Q := fun v s' => v = repF ∧ s' = s) ?hand ?next fun _ _ x => x)
  case hand =>
    cases hF with
    | new => exact wpAny_of_eq (a := repF) (by kernel_rfl) ⟨rfl, rfl⟩
    | old hn hu => exact wpAny_of_eq (a := repF) rfl ⟨rfl, rfl⟩
  rintro _ s' ⟨rfl, hs'⟩
  rw [hs']; clear hs'
  refine wpAny_bind (wpAny_holding (wpAny_mono (Q := fun v s' => ∃ e t h' k, v = .ref e ∧ s' = { s with heap := h', toks := k } ∧ h₀.get? e = none ∧ Ude h' e b t p stop ∧ ∀ c o, h₀.get? c = some o → h'.get? c = some o) ?exc ?tail fun _ _ x => x))
  case exc =>
    cases hF with
    | new =>
      show wpAny _ _ (mkStr "utf-8" >>= fun c => mkBytes b >>= fun o => mkInt p >>= fun i => mkInt stop >>= fun j => mkStr reason >>= fun r => call (.type "UnicodeDecodeError") [c, o, i, j, r]) _ _ _
      refine wpAny_bind (wpAny_mkStr ?_ (by decide))
      refine wpAny_bind (wpAny_mkBytes ?_ hb)
      refine wpAny_bind (wpAny_mkInt ?_)
      refine wpAny_bind (wpAny_mkInt ?_)
      refine wpAny_bind (wpAny_mkStr ?_ hr)
      refine call_ude (by omega) (by omega) (by omega) (by omega) fun h' e hn hu hk' => ?_
      refine ⟨e, _, h', _, rfl, rfl, ?_, hu, fun c o hc => hk' c o (hk c o hc)⟩
      cases q : h₀.get? e with
      | none => rfl
      | some o => have := hk e o q; rw [hn] at this; cases this
    | old hn hu =>
      rename_i e t st sp
      obtain ⟨a0, enc, rs, he⟩ := hu
      show wpAny _ _ (do setMembers (.ref e) { (← members (.ref e)) with start := p, stop := stop, reason := ← mkStr reason }; pure (Value.ref e)) _ _ _
      refine wpAny_bind (members_at he ?_)
      refine wpAny_bind (wpAny_mkStr ?_ hr)
      refine wpAny_bind (setMembers_at (s := { s with toks := s.toks + 1 }) he fun h' e1 x1 => wpAny_pure ?_)
      refine ⟨e, t, h', _, rfl, rfl, hn, ⟨_, _, _, e1⟩, fun c o hc => ?_⟩
      have : c ≠ e := fun z => by subst z; rw [hn] at hc; cases hc
      exact (x1.2 c this).trans (hk c o hc)
  rintro _ _ ⟨e, t, h₁, k₁, rfl, rfl, hn, hu, hk₁⟩
  have hu' := hu
  obtain ⟨a0, enc, rs, he⟩ := hu'
  rw [hheld]
  refine wpAny_bind ?_
  show wpAny _ _ (members (.ref e) >>= _) _ _ _
  refine wpAny_bind (members_at he (wpAny_bind (wpAny_holding (call_rep (s := { s with heap := h₁, toks := k₁ }) hu (by omega) (by omega) (by omega) fun t1 t2 k => ?_))))
  have he' : (h₁.push { cls := .type "tuple", data := .seq #[.str ⟨#[65533]⟩ t1, .int (stop : Int) t2] }).get? e = some (udeObj a0 enc (.bytes b t) (rawInt p) (rawInt stop) rs) := Heap.get?_push_of_some _ he
  refine wpAny_bind (members_at he' ?_)
  refine bm_if_false (by show (!(t == t && b == b)) = false; simp) (wpAny_pure ?_)
  refine wpAny_holding ?_
  have ht : (h₁.push { cls := .type "tuple", data := .seq #[.str ⟨#[65533]⟩ t1, .int (stop : Int) t2] }).get? h₁.objs.size = some { cls := .type "tuple", data := .seq #[.str ⟨#[65533]⟩ t1, .int (stop : Int) t2] } := Heap.get?_push_size _ rfl
  refine wpAny_bind ?_
  show wpAny _ _ (isInstance _ (.type "tuple") >>= _) _ _ _
  refine wpAny_bind (wpAny_isInstance (T := "tuple") ⟨_, ht, rfl⟩ tup_tup ?_)
  refine bm_if_false rfl ?_
  refine wpAny_bind (wpAny_seqItems ht rfl ?_)
  refine wpAny_pure ?_
  refine wpAny_bind (wpAny_of_eq (a := some ⟨#[65533]⟩) rfl ?_)
  refine wpAny_bind ?_
  show wpAny _ _ (asIndex _ >>= _) _ _ _
  refine wpAny_bind (wpAny_of_eq (a := (stop : Int)) rfl ?_)
  refine bm_if_false (by simp; omega) (wpAny_pure ?_)
  have e1 : (if (stop : Int) < 0 then (stop : Int) + (b.size : Int) else (stop : Int)) = stop := if_neg (by omega)
  refine wpAny_bind ?_
  show wpAny _ _ (if (decide ((if (stop : Int) < 0 then (stop : Int) + (b.size : Int) else (stop : Int)) < 0) || decide ((if (stop : Int) < 0 then (stop : Int) + (b.size : Int) else (stop : Int)) > (b.size : Int))) = true then _ else (if (if (stop : Int) < 0 then (stop : Int) + (b.size : Int) else (stop : Int)) ≤ (p : Int) then _ else pure (if (stop : Int) < 0 then (stop : Int) + (b.size : Int) else (stop : Int)).toNat)) _ _ _
  rw [e1]
  refine bm_if_false (by simp; omega) ?_
  rw [if_neg (by omega)]
  refine wpAny_pure (wpAny_pure ?_)
  rw [Int.toNat_natCast]
  refine h _ _ _ ?_ fun c o hc => Heap.get?_push_of_some _ (hk₁ c o hc)
  exact .old hn ⟨_, _, _, he'⟩
end
end Mine
end
section
open PySem PySem.W PyProof.Rows PySem.Calls
set_option maxRecDepth 100000
namespace Mine
open Builtin Builtin.UnicodeEncodeError Builtin._codecs
/-- what UTF-8's decoder reads, a mark for each fault -/
def decB (b : Array UInt8) : Nat → Nat → List Nat
  | 0, _ => []
  | k + 1, p => if p ≥ b.size then [] else match Bytes.utf8At b p with
    | (.char c, q) => c :: decB b k q
    | (.bad _ stop _, _) => 65533 :: decB b k stop
theorem decB_end {b : Array UInt8} {k p : Nat} (h : p ≥ b.size) : decB b k p = [] := by
  cases k with
  | zero => rfl
  | succ k => rw [decB, if_pos h]
/-- how many octets follow, and between which bounds the first of them lies -/
def shapeU (c : Nat) : Option (Nat × Nat × Nat) :=
  if 0xC2 ≤ c && c ≤ 0xDF then some (1, 0x80, 0xBF)
  else if c == 0xE0 then some (2, 0xA0, 0xBF)
  else if c == 0xED then some (2, 0x80, 0x9F)
  else if 0xE1 ≤ c && c ≤ 0xEF then some (2, 0x80, 0xBF)
  else if c == 0xF0 then some (3, 0x90, 0xBF)
  else if 0xF1 ≤ c && c ≤ 0xF3 then some (3, 0x80, 0xBF)
  else if c == 0xF4 then some (3, 0x80, 0x8F)
  else none
def moreU (b : Array UInt8) (p lo hi k : Nat) (v : Nat) : Except (Nat × String) Nat := match b[p + k]? with
  | none => .error (b.size, "unexpected end of data")
  | some x => if (if k == 1 then lo else 0x80) ≤ x.toNat && x.toNat ≤ (if k == 1 then hi else 0xBF) then .ok (v * 64 + x.toNat % 64) else .error (p + k, "invalid continuation byte")
def foldU (b : Array UInt8) (p lo hi more v : Nat) : Except (Nat × String) Nat := ((List.range more).map (· + 1)).foldl (fun acc k => acc.bind (moreU b p lo hi k)) (.ok v)
def pieceU (p more : Nat) (r : Except (Nat × String) Nat) : Bytes.Piece × Nat := match r with
  | .ok v => (.char v, p + more + 1)
  | .error q => (.bad p q.1 q.2, q.1)
theorem utf8At_eq (b : Array UInt8) (p : Nat) : Bytes.utf8At b p = if (b.getD p 0).toNat < 0x80 then (.char (b.getD p 0).toNat, p + 1) else
    match shapeU (b.getD p 0).toNat with
    | none => (.bad p (p + 1) "invalid start byte", p + 1)
    | some (more, lo, hi) => pieceU p more (foldU b p lo hi more ((b.getD p 0).toNat % (if more == 1 then 32 else if more == 2 then 16 else 8))) := by
  unfold Bytes.utf8At
  dsimp only
  generalize (b.getD p 0).toNat = c
  by_cases hc : c < 128
  · rw [if_pos hc, if_pos hc]
  · rw [if_neg hc, if_neg hc]
    rw [show (if (decide (0xC2 ≤ c) && decide (c ≤ 0xDF)) = true then some (1, 0x80, 0xBF)
      else if (c == 0xE0) = true then some (2, 0xA0, 0xBF)
      else if (c == 0xED) = true then some (2, 0x80, 0x9F)
      else if (decide (0xE1 ≤ c) && decide (c ≤ 0xEF)) = true then some (2, 0x80, 0xBF)
      else if (c == 0xF0) = true then some (3, 0x90, 0xBF)
      else if (decide (0xF1 ≤ c) && decide (c ≤ 0xF3)) = true then some (3, 0x80, 0xBF)
      else if (c == 0xF4) = true then some (3, 0x80, 0x8F)
      else none : Option (Nat × Nat × Nat)) = shapeU c from rfl]
    cases shapeU c with
    | none => rfl
    | some m =>
      obtain ⟨more, lo, hi⟩ := m
      dsimp only
      have key : ∀ (F : Except (Nat × String) Nat → Nat → Except (Nat × String) Nat), (∀ acc k, F acc k = acc.bind (moreU b p lo hi k)) → ∀ ks acc, List.foldl F acc ks = List.foldl (fun acc k => acc.bind (moreU b p lo hi k)) acc ks := fun F hF ks acc => by
        rw [show F = fun acc k => acc.bind (moreU b p lo hi k) from funext fun acc => funext fun k => hF acc k]
      rw [key _ (fun acc k => ?_)]
      · unfold foldU
        generalize List.foldl _ _ _ = r
        cases r with
        | ok v => rfl
        | error q => rfl
      · cases acc with
        | error q => rfl
        | ok v =>
          show _ = moreU b p lo hi k v
          unfold moreU
          cases hx : b[p + k]? with
          | none => simp only [Except.bind, hx]
          | some x => simp only [Except.bind, hx]
theorem foldU_bad {b : Array UInt8} {p lo hi : Nat} (hp : p < b.size) : ∀ (ks : List Nat) (acc : Except (Nat × String) Nat), (∀ k ∈ ks, 1 ≤ k) → (∀ q, acc = .error q → p < q.1 ∧ q.1 ≤ b.size ∧ (q.2 : Str).length ≤ sizeLine) →
    ∀ q, ks.foldl (fun acc k => acc.bind (moreU b p lo hi k)) acc = .error q → p < q.1 ∧ q.1 ≤ b.size ∧ (q.2 : Str).length ≤ sizeLine := by
  have r2 : (Str.ofString "unexpected end of data").length ≤ sizeLine := by decide
  have r3 : (Str.ofString "invalid continuation byte").length ≤ sizeLine := by decide
  intro ks
  induction ks with
  | nil => intro acc _ ha q hq; exact ha q hq
  | cons k ks ih =>
    intro acc hk ha q hq
    refine ih _ (fun j hj => hk j (.tail _ hj)) ?_ q hq
    intro q' hq'
    cases acc with
    | error q0 => exact ha q' hq'
    | ok v =>
      change moreU b p lo hi k v = .error q' at hq'
      unfold moreU at hq'
      cases hx : b[p + k]? with
      | none =>
        rw [hx] at hq'
        injection hq' with hq'; subst hq'
        exact ⟨hp, Nat.le_refl _, r2⟩
      | some x =>
        rw [hx] at hq'
        have hlt : p + k < b.size := by
          rcases Nat.lt_or_ge (p + k) b.size with h | h
          · exact h
          · rw [Array.getElem?_eq_none h] at hx; cases hx
        have h1 := hk k (.head _)
        dsimp only at hq'
        by_cases hc : ((if (k == 1) = true then lo else 0x80) ≤ x.toNat && x.toNat ≤ (if (k == 1) = true then hi else 0xBF)) = true
        · rw [if_pos hc] at hq'; cases hq'
        · rw [if_neg hc] at hq'
          injection hq' with hq'; subst hq'
          exact ⟨by dsimp only; omega, by dsimp only; omega, r3⟩
theorem utf8At_bad {b : Array UInt8} {p st stop n : Nat} {r : String} (hp : p < b.size) (h : Bytes.utf8At b p = (.bad st stop r, n)) : p < stop ∧ stop ≤ b.size ∧ (r : Str).length ≤ sizeLine := by
  have r1 : (Str.ofString "invalid start byte").length ≤ sizeLine := by decide
  rw [utf8At_eq] at h
  generalize (b.getD p 0).toNat = c at h
  by_cases hc : c < 128
  · rw [if_pos hc] at h; injection h with h; cases h
  · rw [if_neg hc] at h
    cases hs : shapeU c with
    | none =>
      rw [hs] at h
      injection h with h h'
      injection h with h1 h2 h3
      subst h2 h3
      exact ⟨by omega, by omega, r1⟩
    | some m =>
      obtain ⟨more, lo, hi⟩ := m
      rw [hs] at h
      dsimp only at h
      cases hf : foldU b p lo hi more (c % if (more == 1) = true then 32 else if (more == 2) = true then 16 else 8) with
      | ok v => rw [hf] at h; injection h with h; cases h
      | error q =>
        rw [hf] at h
        have := foldU_bad hp _ _ (fun k hk => by obtain ⟨j, _, rfl⟩ := List.mem_map.mp hk; omega) (fun q hq => by injection hq) q hf
        injection h with h h'
        injection h with h1 h2 h3
        subst h2 h3
        exact this
section
variable {prog : Program} {w : World} {A : Around} {E : Value → Shared → Prop} {s : Shared} {e : Addr}
theorem run_ok {id : String} {b : Array UInt8} {Q : Array Nat × Nat → Shared → Prop} (hb : b.size ≤ sizeLine) (h : ∀ p h' k, (∀ c o, s.heap.get? c = some o → h'.get? c = some o) → Q ((decB b b.size 0).toArray, p) { s with heap := h', toks := k }) :
    wpAny (model prog w) A (runDecoder id utf8Decoder (some "replace") true b 0 []) Q E s := by
  unfold runDecoder
  dsimp only
  rw [KPc.range_list]
  refine wpAny_bind (wpAny_forIn_list _ (fun (rest : List Nat) (st : Nat × Array Nat × Faults) s' => ∃ h' k, s' = { s with heap := h', toks := k } ∧ FltAt s.heap h' b st.2.2 ∧ (∀ c o, s.heap.get? c = some o → h'.get? c = some o) ∧ st.2.1.toList ++ decB b rest.length st.1 = decB b b.size 0 ∧ st.2.1.size + rest.length ≤ b.size)
    (fun st s' => wpAny (model prog w) A (pure (st.2.1, st.1)) Q E s') ?_ ?_ _ _ ⟨s.heap, s.toks, rfl, .new, fun _ _ h => h, by simp, by simp⟩)
  · rintro x rest ⟨p, out, f⟩ s' ⟨h', k, rfl, hF, hk, hd, hz⟩
    dsimp only at hF hd hz ⊢
    rw [List.length_cons] at hd hz
    rw [if_neg (by omega)]
    by_cases hp : p ≥ b.size
    · rw [if_pos hp]
      refine wpAny_pure (wpAny_pure ?_)
      rw [decB_end hp, List.append_nil] at hd
      have : out = (decB b b.size 0).toArray := by rw [← hd]
      rw [this]
      exact h p h' k hk
    · rw [if_neg hp]
      rw [decB, if_neg hp] at hd
      unfold utf8Decoder
      dsimp only
      cases hu : Bytes.utf8At b p with
      | mk piece next =>
        rw [hu] at hd
        cases piece with
        | char c =>
          dsimp only [Found.char]
          refine wpAny_pure ⟨h', k, rfl, hF, hk, ?_, by simp; omega⟩
          dsimp only at hd ⊢
          rw [← hd]; simp
        | bad st stop reason =>
          dsimp only
          obtain ⟨h1, h2, h3⟩ := utf8At_bad (by omega) hu
          refine bm_if_false (by simp) ?_
          refine wpAny_bind (wpAny_rule ?_)
          refine wpAny_bind (fault_step (h₀ := s.heap) hF hk hb h1 h2 h3 fun f' h'' k' hF' hk' => wpAny_pure ?_)
          refine ⟨h'', k', rfl, hF', hk', ?_, by simp; omega⟩
          dsimp only at hd ⊢
          rw [← hd]; simp
  · rintro ⟨p, out, f⟩ s' ⟨h', k, rfl, hF, hk, hd, hz⟩
    dsimp only at hd ⊢
    refine wpAny_pure ?_
    have : out = (decB b b.size 0).toArray := by rw [← hd]; simp [decB]
    rw [this]
    exact h p h' k hk
end
end Mine
end
section
open PySem PySem.W PyProof.Rows PySem.Calls
set_option maxRecDepth 100000
namespace Mine
open Builtin Builtin.UnicodeEncodeError Builtin._codecs
theorem dec_entry {c : UInt8} {cs : List UInt8} {t t1 t2 : Tok} : «bytes.decode» ⟨[.bytes (c :: cs).toArray t, .str (PySem.Str.ofString "utf-8") t1, .str (PySem.Str.ofString "replace") t2], []⟩ = (mkStr (PySem.Str.ofString "utf-8") >>= fun _ => mkStr (PySem.Str.ofString "utf-8") >>= fun e => mkStr (PySem.Str.ofString "replace") >>= fun r => mkStr (PySem.Str.ofString "bytes.decode") >>= fun d =>
    call (.builtin "_codecs.decode.text") [.bytes (c :: cs).toArray t, e, r, d] >>= fun v => ret v) := by kernel_rfl
theorem dec_none {t t1 t2 : Tok} : «bytes.decode» ⟨[.bytes #[] t, .str (PySem.Str.ofString "utf-8") t1, .str (PySem.Str.ofString "replace") t2], []⟩ = (rule "bytes.decode.empty" >>= fun _ => retStr Str.empty) := by kernel_rfl
theorem dec_road {id : String} {b : Array UInt8} : decodeRoad id b (PySem.Str.ofString "utf-8") (some (PySem.Str.ofString "replace")) [] = (runDecoder id utf8Decoder (some (PySem.Str.ofString "replace")) true b 0 [] >>= fun r => mkStr ⟨r.1⟩) := by kernel_rfl
theorem enc_entry {x : Str} {t t1 t2 : Tok} : «str.encode» ⟨[.str x t, .str (PySem.Str.ofString "utf-8") t1, .str (PySem.Str.ofString "surrogateescape") t2], []⟩ = ((encodeNarrow "str.encode" utf8Codec (some (PySem.Str.ofString "surrogateescape")) (.str x t) x >>= fun b => mkBytes b) >>= fun v => ret v) := by kernel_rfl
/-- a sign's octets, a stray octet's own one -/
def encC (c : Nat) : List UInt8 := if Str.isSurrogate c then [(c - 56320).toUInt8] else Str.utf8Of c
def encS (l : List Nat) : List UInt8 := l.flatMap encC
theorem encS_append (l m : List Nat) : encS (l ++ m) = encS l ++ encS m := by simp [encS]
theorem find_run (p : Nat → Bool) : ∀ l : List Nat, (l.findIdx? p).getD l.length = (l.takeWhile fun y => !p y).length
  | [] => rfl
  | c :: l => by
    rw [List.findIdx?_cons]
    cases h : p c with
    | true => simp [h]
    | false =>
      simp only [List.takeWhile_cons, h, Bool.not_false, if_true, List.length_cons, Bool.false_eq_true, if_false]
      rw [← find_run p l]
      cases l.findIdx? p <;> rfl
theorem take_run (p : Nat → Bool) : ∀ l : List Nat, l.take (l.takeWhile p).length = l.takeWhile p
  | [] => rfl
  | c :: l => by
    rw [List.takeWhile_cons]
    split
    · rw [List.length_cons, List.take_succ_cons, take_run p l]
    · rfl
theorem mem_run {p : Nat → Bool} : ∀ {l : List Nat} {c : Nat}, c ∈ l.takeWhile p → p c = true ∧ c ∈ l
  | d :: l, c, h => by
    rw [List.takeWhile_cons] at h
    split at h
    · rename_i hd
      rcases List.mem_cons.mp h with e | e
      · subst e; exact ⟨hd, .head _⟩
      · exact ⟨(mem_run e).1, .tail _ (mem_run e).2⟩
    · cases h
theorem run_all {p : Nat → Bool} : ∀ {l : List Nat}, (∀ c ∈ l, p c = true) → l.takeWhile p = l
  | [], _ => rfl
  | c :: l, h => by rw [List.takeWhile_cons, if_pos (h c (.head _)), run_all fun d hd => h d (.tail _ hd)]
theorem fold_enc : ∀ (l : List Nat) (out : Array UInt8), l.foldl (fun acc y => acc ++ (Str.utf8Of y).toArray) out = out ++ (l.flatMap Str.utf8Of).toArray
  | [], out => by simp
  | c :: l, out => by rw [List.foldl_cons, fold_enc l]; simp
section
variable {prog : Program} {w : World} {A : Around} {E : Value → Shared → Prop} {s : Shared} {e : Addr}
theorem enc_loop {l : List Nat} {v : Value} {Q : Array UInt8 → Shared → Prop} (hs : ∀ c ∈ l, Str.isSurrogate c = true → 56448 ≤ c ∧ c ≤ 56575) (hz : (encS l).length ≤ sizeLine) (h : Q (encS l).toArray s) : wpAny (model prog w) A (encodeNarrow "str.encode" utf8Codec (some (PySem.Str.ofString "surrogateescape")) v ⟨l.toArray⟩) Q E s := by
  unfold encodeNarrow
  dsimp only
  rw [KPc.range_list]
  have hname : ((some (PySem.Str.ofString "surrogateescape")).getD (PySem.Str.ofString "strict")).toString = "surrogateescape" := by decide +kernel
  generalize ((some (PySem.Str.ofString "surrogateescape")).getD (PySem.Str.ofString "strict")).toString = nm at hname
  have hpre : ∀ i, (encS (l.take i)).length ≤ sizeLine := fun i => by
    have := encS_append (l.take i) (l.drop i)
    rw [List.take_append_drop] at this
    rw [this, List.length_append] at hz
    omega
  refine wpAny_bind (wpAny_forIn_list _ (fun (rest : List Nat) (st : Nat × Array UInt8 × Faults) s' => s' = s ∧ st.2.1 = (encS (l.take st.1)).toArray ∧ l.length ≤ st.1 + rest.length)
    (fun st s' => wpAny (model prog w) A (pure st.2.1) Q E s') ?_ ?_ _ _ ⟨rfl, rfl, by simp [Str.length]⟩)
  · rintro _ rest ⟨i, out, f⟩ s' ⟨rfl, ho, hl⟩
    dsimp only at ho hl ⊢
    subst ho
    rw [List.length_cons] at hl
    rw [if_neg (by have := hpre i; simp only [List.size_toArray]; omega)]
    rw [List.getElem?_toArray]
    cases hx : l[i]? with
    | none =>
      have hi : l.length ≤ i := List.getElem?_eq_none_iff.mp hx
      dsimp only
      refine wpAny_pure (wpAny_pure ?_)
      rw [List.take_of_length_le hi]
      exact h
    | some c =>
      have hi : i < l.length := (List.getElem?_eq_some_iff.mp hx).1
      have hd : l.drop i = c :: l.drop (i + 1) := by
        rw [List.drop_eq_getElem_cons hi]
        rw [List.getElem?_eq_getElem hi] at hx
        cases hx; rfl
      have hex : l.toArray.extract i = (l.drop i).toArray := by
        apply Array.toList_inj.mp
        simp [List.take_of_length_le]
      dsimp only
      have hbad : utf8Codec.bad = Str.isSurrogate := rfl
      have hby : utf8Codec.bytesOf = Str.utf8Of := rfl
      rw [hbad, hby, hex]
      by_cases hc : Str.isSurrogate c = true
      · rw [if_neg (by rw [hc]; decide)]
        refine wpAny_bind (wpAny_rule ?_)
        have e1 : (Array.findIdx? (fun y => !Str.isSurrogate y) (l.drop i).toArray).getD (l.toArray.size - i) = ((l.drop i).takeWhile Str.isSurrogate).length := by
          rw [List.findIdx?_toArray, List.size_toArray, show l.length - i = (l.drop i).length by simp, find_run]
          simp
        have e2 : (l.toArray.extract i (i + ((l.drop i).takeWhile Str.isSurrogate).length)).toList = (l.drop i).takeWhile Str.isSurrogate := by
          simp [take_run]
        rw [e1]
        have e5 : ((l.drop i).takeWhile Str.isSurrogate).takeWhile (fun x => decide (56448 ≤ x) && decide (x ≤ 56575)) = (l.drop i).takeWhile Str.isSurrogate := run_all fun y hy => by
          have := hs y (List.mem_of_mem_drop (mem_run hy).2) (mem_run hy).1
          simp; omega
        subst hname
        show wpAny _ _ (if (i + ((l.toArray.extract i (i + ((l.drop i).takeWhile Str.isSurrogate).length)).toList.takeWhile (fun x => decide (56448 ≤ x) && decide (x ≤ 56575))).length == i + ((l.drop i).takeWhile Str.isSurrogate).length) = true then pure (ForInStep.yield (i + ((l.drop i).takeWhile Str.isSurrogate).length, (encS (l.take i)).toArray ++ (List.map (fun x => (x - 56320).toUInt8) ((l.toArray.extract i (i + ((l.drop i).takeWhile Str.isSurrogate).length)).toList.takeWhile (fun x => decide (56448 ≤ x) && decide (x ≤ 56575)))).toArray, f)) else _) _ _ _
        rw [e2, e5, if_pos (by simp)]
        refine wpAny_pure ⟨rfl, ?_, ?_⟩
        · dsimp only
          rw [List.take_add, take_run, encS_append]
          have e4 : ∀ m : List Nat, (∀ y ∈ m, Str.isSurrogate y = true) → encS m = m.map (fun x => (x - 56320).toUInt8) := fun m hm => by
            unfold encS
            induction m with
            | nil => rfl
            | cons y m ih =>
              rw [List.flatMap_cons, List.map_cons, ih fun z hz => hm z (.tail _ hz), encC, if_pos (hm y (.head _))]; rfl
          rw [e4 ((l.drop i).takeWhile Str.isSurrogate) fun y hy => (mem_run hy).1]
          simp
        · dsimp only
          rw [hd, List.takeWhile_cons, if_pos hc, List.length_cons]
          omega
      · rw [if_pos (by simpa using hc)]
        have e1 : (Array.findIdx? Str.isSurrogate (l.drop i).toArray).getD (l.drop i).toArray.size = ((l.drop i).takeWhile fun y => !Str.isSurrogate y).length := by
          rw [List.findIdx?_toArray, List.size_toArray, find_run]
        rw [e1]
        refine wpAny_pure ⟨rfl, ?_, ?_⟩
        · dsimp only
          have e2 : (l.drop i).toArray.extract 0 ((l.drop i).takeWhile fun y => !Str.isSurrogate y).length = ((l.drop i).takeWhile fun y => !Str.isSurrogate y).toArray := by
            apply Array.toList_inj.mp
            simp [take_run]
          rw [e2, List.foldl_toArray, fold_enc]
          have e3 : l.take (i + ((l.drop i).takeWhile fun y => !Str.isSurrogate y).length) = l.take i ++ (l.drop i).takeWhile fun y => !Str.isSurrogate y := by
            rw [List.take_add, take_run]
          rw [e3, encS_append]
          have e4 : ∀ m : List Nat, (∀ y ∈ m, Str.isSurrogate y = false) → encS m = m.flatMap Str.utf8Of := fun m hm => by
            unfold encS
            induction m with
            | nil => rfl
            | cons y m ih =>
              rw [List.flatMap_cons, List.flatMap_cons, ih fun z hz => hm z (.tail _ hz), encC, if_neg (by rw [hm y (.head _)]; decide)]
          rw [e4 ((l.drop i).takeWhile fun y => !Str.isSurrogate y) fun y hy => by simpa using (mem_run hy).1]
          simp
        · dsimp only
          rw [hd, List.takeWhile_cons, if_pos (by simpa using hc), List.length_cons]
          omega
  · rintro ⟨i, out, f⟩ s' ⟨rfl, ho, hl⟩
    dsimp only at ho hl ⊢
    subst ho
    refine wpAny_pure ?_
    rw [List.take_of_length_le (by simpa using hl)]
    exact h
end
end Mine
end
section
open PySem PySem.W PyProof.Rows PySem.Calls
set_option maxRecDepth 100000
namespace Mine
open Builtin Builtin.UnicodeEncodeError Builtin._codecs
theorem dec_args (a b c : Value) : argsOk "bytes.decode" ⟨[a, b, c], []⟩ := by unfold argsOk; kernel_rfl
section
variable {G : Gr} {n : Nat}
def decA (b : List UInt8) : List Nat := decB b.toArray b.length 0
theorem decB_length (b : Array UInt8) : ∀ (k p : Nat), (decB b k p).length ≤ k
  | 0, p => by simp [decB]
  | k + 1, p => by
    rw [decB]
    split
    · simp
    · split
      · have := decB_length b k; simp only [List.length_cons]; exact Nat.succ_le_succ (this _)
      · have := decB_length b k; simp only [List.length_cons]; exact Nat.succ_le_succ (this _)
theorem MethD.encode {x : Str} : MethD G n (.str x) "encode" (.builtin "str.encode") := fun ok A s E v pl r k f rv => by
  cases rv
  exact GM.of (.str x _) (typeIs_str _ _ _) PySem.F.slot_str_encode PySem.F.type_str_encode (fun _ e => nomatch e) ⟨.refl, rfl⟩
theorem MethD.decode {b : Array UInt8} : MethD G n (.bytes b) "decode" (.builtin "bytes.decode") := fun ok A s E v pl r k f rv => by
  cases rv
  exact KBd.method ⟨.refl, rfl⟩
theorem CallD.encode {l : List Nat} (hs : ∀ c ∈ l, Str.isSurrogate c = true → 56448 ≤ c ∧ c ≤ 56575) (hz : (encS l).length ≤ sizeLine) :
    CallD G n (.builtin "str.encode") [.str ⟨l.toArray⟩, .str "utf-8", .str "surrogateescape"] (.bytes (encS l).toArray) := fun ok A s E vs r k f rv => by
  cases rv with | cons a rs =>
  cases rs with | cons b rs =>
  cases rs with | cons c rs =>
  cases rs
  cases a; cases b; cases c
  rename_i t1 t2 t3
  refine call_meets (S := fun A R s' => s' = s ∧ ∀ t k, R (.ok (.ret (.bytes (encS l).toArray t))) { s with toks := k }) PySem.F.slot_str_encode (typeIs_str _ _ _) PySem.F.entry_str_encode (PySem.F.args_str_encode_3 _ _ _) ?_ ⟨rfl, fun t k => ⟨.tok, .bytes _ _⟩⟩
  refine .of_wp fun prog w A R s' hS => ?_
  obtain ⟨rfl, hR⟩ := hS
  rw [enc_entry]
  refine wpAny_bind (wpAny_bind (enc_loop hs hz ?_))
  exact wpAny_mkBytes (wpAny_pure ⟨_, rfl, hR _ _⟩) (by rw [List.size_toArray]; exact hz)
theorem CallD.decode {b : List UInt8} (hz : b.length ≤ sizeLine) : CallD G n (.builtin "bytes.decode") [.bytes b.toArray, .str "utf-8", .str "replace"] (.str ⟨(decA b).toArray⟩) := fun ok A s E vs r k f rv => by
  cases rv with | cons a rs =>
  cases rs with | cons b' rs =>
  cases rs with | cons c rs =>
  cases rs
  cases a; cases b'; cases c
  rename_i t1 t2 t3
  refine call_meets (S := fun A R s' => s' = s ∧ ∀ h' t k, (∀ c o, s.heap.get? c = some o → h'.get? c = some o) → R (.ok (.ret (.str ⟨(decA b).toArray⟩ t))) { s with heap := h', toks := k }) FB.slot_bytes_decode (typeIs_bytes _ _ _) FB.entry_bytes_decode (dec_args _ _ _) ?_ ⟨rfl, fun h' t k hk => ⟨.heap hk, .str _ _⟩⟩
  refine .of_wp fun prog w A R s' hS => ?_
  obtain ⟨rfl, hR⟩ := hS
  cases b with
  | nil =>
    rw [show (([] : List UInt8).toArray) = #[] from rfl, dec_none]
    refine wpAny_bind (wpAny_rule ?_)
    exact wpAny_bind (wpAny_mkStr (wpAny_pure ⟨_, rfl, hR s'.heap _ _ fun _ _ h => h⟩) (by decide))
  | cons c cs =>
    rw [dec_entry]
    refine wpAny_bind (wpAny_mkStr ?_ (by decide))
    refine wpAny_bind (wpAny_mkStr ?_ (by decide))
    refine wpAny_bind (wpAny_mkStr ?_ (by decide))
    refine wpAny_bind (wpAny_mkStr ?_ (by decide))
    refine wpAny_bind ?_
    have hlen := decB_length (c :: cs).toArray (c :: cs).length 0
    have key : ∀ t1 t2 t3 t4 tk, wpAny (model prog w) A.in1 (call (.builtin "_codecs.decode.text") [.bytes (c :: cs).toArray t1, .str (PySem.Str.ofString "utf-8") t2, .str (PySem.Str.ofString "replace") t3, .str (PySem.Str.ofString "bytes.decode") t4])
        (fun v s₁ => wpAny (model prog w) A.in1 (ret v) (fun fin s' => ∃ v, fin = .done (.ret v) ∧ R (.ok (.ret v)) s') (fun e s' => R (.error e) s') s₁) (fun e s' => R (.error e) s') { s' with toks := tk } := by
      intro t1 t2 t3 t4 tk
      refine call_function_meets (S := fun A R' s'' => s'' = { s' with toks := tk } ∧ ∀ h' t k, (∀ c o, s'.heap.get? c = some o → h'.get? c = some o) → R' (.ok (.ret (.str ⟨(decA (c :: cs)).toArray⟩ t))) { s' with heap := h', toks := k }) KBd.kind_text KBd.plain_text KBd.entry_text (KBd.args_text _ _ _ _) ?_ ⟨rfl, fun h' t k hk => wpAny_pure ⟨_, rfl, hR h' t k hk⟩⟩
      refine .of_wp fun prog w A R' s'' hS => ?_
      obtain ⟨rfl, hR'⟩ := hS
      show wpAny _ _ (Bytes.bytesLike _ (.bytes (c :: cs).toArray t1) >>= fun r => _) _ _ _
      refine wpAny_bind (wpAny_of_eq KBd.like_eq ?_)
      refine wpAny_bind (wpAny_of_eq KBd.held_eq ?_)
      show wpAny _ _ (decodeRoad _ (c :: cs).toArray (PySem.Str.ofString "utf-8") (some (PySem.Str.ofString "replace")) [] >>= fun v => _) _ _ _
      rw [dec_road]
      refine wpAny_bind (wpAny_bind (run_ok (by rw [List.size_toArray]; exact hz) fun p h' k hk => ?_))
      refine wpAny_mkStr (x := ⟨(decA (c :: cs)).toArray⟩) ?_ ?_
      · exact wpAny_pure ⟨_, rfl, hR' h' _ _ hk⟩
      · show (decA (c :: cs)).toArray.size ≤ _
        rw [List.size_toArray]
        exact Nat.le_trans hlen hz
    exact key _ _ _ _ _
end
end Mine
end
section
open PySem PySem.W PyProof.Rows PySem.Calls
set_option maxRecDepth 100000
namespace Mine
def U (os : List Nat) : List UInt8 := os.map Nat.toUInt8
def Oct (os : List Nat) : Prop := ∀ o ∈ os, o < 256
theorem toU (n : Nat) (h : n < 256) : (n.toUInt8).toNat = n := by
  show (UInt8.ofNat n).toNat = n
  simp; omega
/-- the octets that go on with a sign -/
def contN (lo hi : Nat) : Nat → Nat → List Nat → Nat → Option Nat × Nat
  | 0, k, _, v => (some v, k)
  | _ + 1, k, [], _ => (none, k)
  | m + 1, k, x :: r, v => if (if k = 1 then lo else 128) ≤ x ∧ x ≤ (if k = 1 then hi else 191) then contN lo hi m (k + 1) r (v * 64 + x % 64) else (none, k)
def stepN (c : Nat) (r : List Nat) : Option Nat × Nat := if c < 128 then (some c, 1) else match shapeU c with
  | none => (none, 1)
  | some (more, lo, hi) => contN lo hi more 1 r (c % (if more = 1 then 32 else if more = 2 then 16 else 8))
theorem contN_ge (lo hi : Nat) : ∀ (m k : Nat) (r : List Nat) (v : Nat), k ≤ (contN lo hi m k r v).2
  | 0, k, r, v => Nat.le_refl _
  | m + 1, k, [], v => Nat.le_refl _
  | m + 1, k, x :: r, v => by
    rw [contN]
    by_cases h : (if k = 1 then lo else 128) ≤ x ∧ x ≤ (if k = 1 then hi else 191)
    · rw [if_pos h]; exact Nat.le_trans (Nat.le_succ k) (contN_ge lo hi m (k + 1) r _)
    · rw [if_neg h]; exact Nat.le_refl _
theorem stepN_pos (c : Nat) (r : List Nat) : 1 ≤ (stepN c r).2 := by
  unfold stepN
  split
  · exact Nat.le_refl _
  · split
    · exact Nat.le_refl _
    · exact contN_ge ..
def dL : Nat → List Nat → List Nat
  | 0, _ => []
  | _ + 1, [] => []
  | k + 1, c :: r => (stepN c r).1.getD 65533 :: dL k ((c :: r).drop (stepN c r).2)
theorem dL_fuel : ∀ (k j : Nat) (os : List Nat), os.length ≤ k → os.length ≤ j → dL k os = dL j os
  | k, j, [], _, _ => by cases k <;> cases j <;> rfl
  | 0, _, _ :: _, h, _ => by simp at h
  | _ + 1, 0, _ :: _, _, h => by simp at h
  | k + 1, j + 1, c :: r, h1, h2 => by
    rw [dL, dL]
    have := stepN_pos c r
    rw [dL_fuel k j ((c :: r).drop (stepN c r).2) (by simp at h1 ⊢; omega) (by simp at h2 ⊢; omega)]
def dN (os : List Nat) : List Nat := dL os.length os
theorem dN_nil : dN [] = [] := rfl
theorem dN_cons (c : Nat) (r : List Nat) : dN (c :: r) = (stepN c r).1.getD 65533 :: dN ((c :: r).drop (stepN c r).2) := by
  have := stepN_pos c r
  show dL (r.length + 1) (c :: r) = _
  rw [dL]
  unfold dN
  rw [dL_fuel r.length ((c :: r).drop (stepN c r).2).length _ (by simp; omega) (Nat.le_refl _)]
theorem bind_err {b : Array UInt8} {p lo hi : Nat} {q : Nat × String} : ∀ ks : List Nat, ks.foldl (fun (acc : Except (Nat × String) Nat) k => acc.bind (moreU b p lo hi k)) (Except.error q) = Except.error q
  | [] => rfl
  | k :: ks => bind_err ks
theorem fold_cont {pre os : List Nat} (ho : Oct os) (lo hi : Nat) : ∀ (m k v : Nat), 1 ≤ k → k ≤ os.length →
    (∃ v', contN lo hi m k (os.drop k) v = (some v', k + m) ∧ (List.range' k m).foldl (fun (acc : Except (Nat × String) Nat) k => acc.bind (moreU (U (pre ++ os)).toArray pre.length lo hi k)) (Except.ok v) = Except.ok v') ∨
    ∃ n r, contN lo hi m k (os.drop k) v = (none, n) ∧ (List.range' k m).foldl (fun (acc : Except (Nat × String) Nat) k => acc.bind (moreU (U (pre ++ os)).toArray pre.length lo hi k)) (Except.ok v) = Except.error (pre.length + n, r)
  | 0, k, v, _, _ => .inl ⟨v, rfl, rfl⟩
  | m + 1, k, v, h1, h2 => by
    rw [List.range'_succ, List.foldl_cons]
    have hb : (U (pre ++ os)).toArray[pre.length + k]? = (os[k]?).map Nat.toUInt8 := by
      rw [List.getElem?_toArray]
      unfold U
      rw [List.getElem?_map, List.getElem?_append_right (Nat.le_add_right _ _), Nat.add_sub_cancel_left]
    cases hx : os[k]? with
    | none =>
      have hk : os.length = k := Nat.le_antisymm (List.getElem?_eq_none_iff.mp hx) h2
      have hm : moreU (U (pre ++ os)).toArray pre.length lo hi k v = .error (pre.length + k, "unexpected end of data") := by
        unfold moreU
        rw [hb, hx]
        dsimp only [Option.map]
        congr 2
        simp [U]; omega
      right
      rw [List.drop_eq_nil_of_le (by omega)]
      refine ⟨k, "unexpected end of data", rfl, ?_⟩
      show List.foldl _ (moreU (U (pre ++ os)).toArray pre.length lo hi k v) _ = _
      rw [hm, bind_err]
    | some x =>
      have hk : k < os.length := (List.getElem?_eq_some_iff.mp hx).1
      have hxo : x < 256 := ho x (List.mem_of_getElem? hx)
      have hd : os.drop k = x :: os.drop (k + 1) := by
        rw [List.drop_eq_getElem_cons hk]
        rw [List.getElem?_eq_getElem hk] at hx
        cases hx; rfl
      have hm : moreU (U (pre ++ os)).toArray pre.length lo hi k v = if (if k = 1 then lo else 128) ≤ x ∧ x ≤ (if k = 1 then hi else 191) then .ok (v * 64 + x % 64) else .error (pre.length + k, "invalid continuation byte") := by
        unfold moreU
        rw [hb, hx]
        dsimp only [Option.map]
        rw [toU x hxo]
        by_cases h1 : k = 1
        · simp [h1]
        · simp [h1]
      rw [hd, contN]
      show (∃ v', _ ∧ List.foldl _ (moreU (U (pre ++ os)).toArray pre.length lo hi k v) _ = _) ∨ ∃ n r, _ ∧ List.foldl _ (moreU (U (pre ++ os)).toArray pre.length lo hi k v) _ = _
      rw [hm]
      by_cases hc : (if k = 1 then lo else 128) ≤ x ∧ x ≤ (if k = 1 then hi else 191)
      · rw [if_pos hc, if_pos hc]
        have := fold_cont (pre := pre) ho lo hi m (k + 1) (v * 64 + x % 64) (by omega) (by omega)
        rw [show k + (m + 1) = k + 1 + m by omega]
        exact this
      · rw [if_neg hc, if_neg hc, bind_err]
        exact .inr ⟨k, _, rfl, rfl⟩
theorem decB_dL {pre : List Nat} : ∀ (k : Nat) (pre os : List Nat), Oct os → decB (U (pre ++ os)).toArray k pre.length = dL k os
  | 0, pre, os, _ => rfl
  | k + 1, pre, [], _ => by
    rw [decB, dL, if_pos (by simp [U])]
  | k + 1, pre, c :: r, ho => by
    have hc : c < 256 := ho c (.head _)
    have hget : ((U (pre ++ c :: r)).toArray.getD pre.length 0).toNat = c := by
      have : (U (pre ++ c :: r)).toArray.getD pre.length 0 = c.toUInt8 := by simp [U]
      rw [this, toU c hc]
    have next : ∀ n, 1 ≤ n → decB (U (pre ++ c :: r)).toArray k (pre.length + n) = dL k ((c :: r).drop n) := fun n hn => by
      by_cases hl : n ≤ (c :: r).length
      · have := decB_dL (pre := pre) k (pre ++ (c :: r).take n) ((c :: r).drop n) fun o hoo => ho o (List.mem_of_mem_drop hoo)
        rw [List.append_assoc, List.take_append_drop, List.length_append, List.length_take, Nat.min_eq_left hl] at this
        exact this
      · rw [List.drop_eq_nil_of_le (by omega), decB_end (by simp [U] at hl ⊢; omega)]
        cases k <;> rfl
    rw [decB, dL, if_neg (by simp [U]), utf8At_eq, hget]
    unfold stepN
    by_cases h1 : c < 128
    · rw [if_pos h1, if_pos h1]
      dsimp only [Option.getD]
      rw [next 1 (Nat.le_refl _)]
    · rw [if_neg h1, if_neg h1]
      cases hs : shapeU c with
      | none =>
        dsimp only [Option.getD]
        rw [next 1 (Nat.le_refl _)]
      | some m =>
        obtain ⟨more, lo, hi⟩ := m
        dsimp only
        have hv : (c % if (more == 1) = true then 32 else if (more == 2) = true then 16 else 8) = c % (if more = 1 then 32 else if more = 2 then 16 else 8) := by simp
        rw [hv]
        have hr : (List.range more).map (· + 1) = List.range' 1 more := by rw [List.range'_eq_map_range]; simp [Nat.add_comm]
        unfold foldU
        rw [hr]
        rcases fold_cont (pre := pre) ho lo hi more 1 (c % (if more = 1 then 32 else if more = 2 then 16 else 8)) (Nat.le_refl _) (by simp) with ⟨v', e1, e2⟩ | ⟨n, rs, e1, e2⟩
        · rw [e2]
          have e1' : contN lo hi more 1 r (c % (if more = 1 then 32 else if more = 2 then 16 else 8)) = (some v', 1 + more) := e1
          rw [e1']
          dsimp only [pieceU, Option.getD]
          rw [show pre.length + more + 1 = pre.length + (1 + more) by omega, next _ (by omega)]
        · rw [e2]
          have e1' : contN lo hi more 1 r (c % (if more = 1 then 32 else if more = 2 then 16 else 8)) = (none, n) := e1
          have hn : 1 ≤ n := by have := contN_ge lo hi more 1 r (c % (if more = 1 then 32 else if more = 2 then 16 else 8)); rw [e1'] at this; exact this
          rw [e1']
          dsimp only [pieceU, Option.getD]
          rw [next n hn]
theorem decA_U {os : List Nat} (ho : Oct os) : decA (U os) = dN os := by
  have := decB_dL (pre := []) os.length [] os ho
  unfold decA dN
  rw [show (U os).length = os.length by simp [U]]
  exact this
end Mine
end
section
open PySem PySem.W PyProof.Rows PySem.Calls
set_option maxRecDepth 100000
namespace Mine
def oct (c : Nat) : List Nat :=
  if c < 128 then [c]
  else if c < 2048 then [192 + c / 64, 128 + c % 64]
  else if c < 65536 then [224 + c / 4096, 128 + c / 64 % 64, 128 + c % 64]
  else [240 + c / 262144, 128 + c / 4096 % 64, 128 + c / 64 % 64, 128 + c % 64]
/-- a sign that is no surrogate -/
def Val (c : Nat) : Prop := c < 1114112 ∧ (c < 55296 ∨ 57344 ≤ c)
/-- octets that go on as they should -/
def ContOk (lo hi : Nat) : Nat → List Nat → Prop
  | _, [] => True
  | k, x :: r => ((if k = 1 then lo else 128) ≤ x ∧ x ≤ (if k = 1 then hi else 191)) ∧ ContOk lo hi (k + 1) r
def contV : Nat → List Nat → Nat
  | v, [] => v
  | v, x :: r => contV (v * 64 + x % 64) r
theorem cont_run {lo hi : Nat} : ∀ {cs r : List Nat} {m k v : Nat}, ContOk lo hi k cs → contN lo hi (cs.length + m) k (cs ++ r) v = contN lo hi m (k + cs.length) r (contV v cs)
  | [], r, m, k, v, _ => by simp [contV]
  | x :: cs, r, m, k, v, h => by
    rw [List.length_cons, show cs.length + 1 + m = (cs.length + m) + 1 by omega]
    show contN lo hi ((cs.length + m) + 1) k (x :: (cs ++ r)) v = _
    rw [contN, if_pos h.1, cont_run h.2, contV, show k + 1 + cs.length = k + (cs.length + 1) by omega]
structure Head (c f lo hi : Nat) (cs : List Nat) : Prop where
  oct : oct c = f :: cs
  ge : 192 ≤ f
  lt : f < 256
  shape : shapeU f = some (cs.length, lo, hi)
  lo_ge : 128 ≤ lo
  hi_le : hi ≤ 191
  ok : ContOk lo hi 1 cs
  val : contV (f % (if cs.length = 1 then 32 else if cs.length = 2 then 16 else 8)) cs = c
  pos : 1 ≤ cs.length
theorem head_of {c : Nat} (h : Val c) (h1 : 128 ≤ c) : ∃ f lo hi cs, Head c f lo hi cs := by
  obtain ⟨h2, h3⟩ := h
  by_cases a : c < 2048
  · refine ⟨192 + c / 64, 128, 191, [128 + c % 64], ?_, by omega, by omega, ?_, by decide, by decide, ⟨⟨by show 128 ≤ _; omega, by show _ ≤ 191; omega⟩, trivial⟩, ?_, by simp⟩
    · rw [oct, if_neg (by omega), if_pos a]
    · unfold shapeU
      rw [if_pos (by simp; omega)]; rfl
    · show ((192 + c / 64) % 32) * 64 + (128 + c % 64) % 64 = c
      omega
  · by_cases b : c < 65536
    · have ho : oct c = [224 + c / 4096, 128 + c / 64 % 64, 128 + c % 64] := by rw [oct, if_neg (by omega), if_neg a, if_pos b]
      have hv : contV ((224 + c / 4096) % 16) [128 + c / 64 % 64, 128 + c % 64] = c := by
        show ((224 + c / 4096) % 16 * 64 + (128 + c / 64 % 64) % 64) * 64 + (128 + c % 64) % 64 = c
        omega
      by_cases z : c / 4096 = 0
      · refine ⟨224 + c / 4096, 160, 191, _, ho, by omega, by omega, ?_, by decide, by decide, ⟨⟨by show 160 ≤ _; omega, by show _ ≤ 191; omega⟩, ⟨by show 128 ≤ _; omega, by show _ ≤ 191; omega⟩, trivial⟩, hv, by simp⟩
        rw [z]; rfl
      · by_cases y : c / 4096 = 13
        · refine ⟨224 + c / 4096, 128, 159, _, ho, by omega, by omega, ?_, by decide, by decide, ⟨⟨by show 128 ≤ _; omega, by show _ ≤ 159; omega⟩, ⟨by show 128 ≤ _; omega, by show _ ≤ 191; omega⟩, trivial⟩, hv, by simp⟩
          rw [y]; rfl
        · refine ⟨224 + c / 4096, 128, 191, _, ho, by omega, by omega, ?_, by decide, by decide, ⟨⟨by show 128 ≤ _; omega, by show _ ≤ 191; omega⟩, ⟨by show 128 ≤ _; omega, by show _ ≤ 191; omega⟩, trivial⟩, hv, by simp⟩
          unfold shapeU
          rw [if_neg (by simp; omega), if_neg (by simp; omega), if_neg (by simp; omega), if_pos (by simp; omega)]; rfl
    · have ho : oct c = [240 + c / 262144, 128 + c / 4096 % 64, 128 + c / 64 % 64, 128 + c % 64] := by rw [oct, if_neg (by omega), if_neg a, if_neg b]
      have hv : contV ((240 + c / 262144) % 8) [128 + c / 4096 % 64, 128 + c / 64 % 64, 128 + c % 64] = c := by
        show (((240 + c / 262144) % 8 * 64 + (128 + c / 4096 % 64) % 64) * 64 + (128 + c / 64 % 64) % 64) * 64 + (128 + c % 64) % 64 = c
        omega
      by_cases z : c / 262144 = 0
      · refine ⟨240 + c / 262144, 144, 191, _, ho, by omega, by omega, ?_, by decide, by decide, ⟨⟨by show 144 ≤ _; omega, by show _ ≤ 191; omega⟩, ⟨by show 128 ≤ _; omega, by show _ ≤ 191; omega⟩, ⟨by show 128 ≤ _; omega, by show _ ≤ 191; omega⟩, trivial⟩, hv, by simp⟩
        rw [z]; rfl
      · by_cases y : c / 262144 = 4
        · refine ⟨240 + c / 262144, 128, 143, _, ho, by omega, by omega, ?_, by decide, by decide, ⟨⟨by show 128 ≤ _; omega, by show _ ≤ 143; omega⟩, ⟨by show 128 ≤ _; omega, by show _ ≤ 191; omega⟩, ⟨by show 128 ≤ _; omega, by show _ ≤ 191; omega⟩, trivial⟩, hv, by simp⟩
          rw [y]; rfl
        · refine ⟨240 + c / 262144, 128, 191, _, ho, by omega, by omega, ?_, by decide, by decide, ⟨⟨by show 128 ≤ _; omega, by show _ ≤ 191; omega⟩, ⟨by show 128 ≤ _; omega, by show _ ≤ 191; omega⟩, ⟨by show 128 ≤ _; omega, by show _ ≤ 191; omega⟩, trivial⟩, hv, by simp⟩
          unfold shapeU
          rw [if_neg (by simp; omega), if_neg (by simp; omega), if_neg (by simp; omega), if_neg (by simp; omega), if_neg (by simp; omega), if_pos (by simp; omega)]; rfl
theorem ContOk.mem {lo hi : Nat} (h1 : 128 ≤ lo) (h2 : hi ≤ 191) : ∀ {cs : List Nat} {k : Nat}, ContOk lo hi k cs → ∀ x ∈ cs, 128 ≤ x ∧ x ≤ 191
  | y :: cs, k, h, x, hx => by
    rcases List.mem_cons.mp hx with e | e
    · subst e
      have := h.1
      split at this <;> omega
    · exact ContOk.mem h1 h2 h.2 x e
theorem ContOk.take {lo hi : Nat} : ∀ {cs : List Nat} {k j : Nat}, ContOk lo hi k cs → ContOk lo hi k (cs.take j)
  | [], k, j, h => by simp [ContOk]
  | x :: cs, k, 0, h => by simp [ContOk]
  | x :: cs, k, j + 1, h => ⟨h.1, ContOk.take h.2⟩
theorem oct_small {c : Nat} (h : c < 128) : oct c = [c] := by rw [oct, if_pos h]
/-- a whole sign is read -/
theorem dN_sign {c : Nat} (h : Val c) (r : List Nat) : dN (oct c ++ r) = c :: dN r := by
  by_cases h1 : c < 128
  · rw [oct_small h1]
    show dN (c :: r) = _
    rw [dN_cons]
    have : stepN c r = (some c, 1) := by rw [stepN, if_pos h1]
    rw [this]; rfl
  · obtain ⟨f, lo, hi, cs, H⟩ := head_of h (by omega)
    rw [H.oct]
    show dN (f :: (cs ++ r)) = _
    rw [dN_cons]
    have : stepN f (cs ++ r) = (some c, 1 + cs.length) := by
      have hge := H.ge
      rw [stepN, if_neg (by omega), H.shape]
      dsimp only
      have := cont_run (r := r) (m := 0) (v := f % (if cs.length = 1 then 32 else if cs.length = 2 then 16 else 8)) H.ok
      rw [Nat.add_zero] at this
      rw [this, H.val]; rfl
    rw [this]
    show c :: dN ((f :: (cs ++ r)).drop (1 + cs.length)) = _
    rw [Nat.add_comm, List.drop_succ_cons, List.drop_left]
/-- an octet that goes on with nothing -/
theorem dN_stray {o : Nat} (h1 : 128 ≤ o) (h2 : o < 192) (r : List Nat) : dN (o :: r) = 65533 :: dN r := by
  rw [dN_cons]
  have hs : shapeU o = none := by
    unfold shapeU
    rw [if_neg (by simp; omega), if_neg (by simp; omega), if_neg (by simp; omega), if_neg (by simp; omega), if_neg (by simp; omega), if_neg (by simp; omega), if_neg (by simp; omega)]
  have : stepN o r = (none, 1) := by rw [stepN, if_neg (by omega), hs]
  rw [this]; rfl
/-- what does not go on with a sign -/
def Fresh (r : List Nat) : Prop := ∀ x, r.head? = some x → x < 128 ∨ 192 ≤ x
/-- a sign that breaks off -/
theorem dN_cut {c j : Nat} (h : Val c) (h1 : 1 ≤ j) (h2 : j < (oct c).length) {r : List Nat} (hr : Fresh r) : dN ((oct c).take j ++ r) = 65533 :: dN r := by
  have hc : 128 ≤ c := by
    rcases Nat.lt_or_ge c 128 with q | q
    · rw [oct_small q] at h2; simp at h2; omega
    · exact q
  obtain ⟨f, lo, hi, cs, H⟩ := head_of h hc
  rw [H.oct] at h2 ⊢
  obtain ⟨j, rfl⟩ : ∃ i, j = i + 1 := ⟨j - 1, by omega⟩
  rw [List.length_cons] at h2
  rw [List.take_succ_cons]
  show dN (f :: (cs.take j ++ r)) = _
  rw [dN_cons]
  have hlen : (cs.take j).length = j := by rw [List.length_take]; omega
  have hge := H.ge
  have : stepN f (cs.take j ++ r) = (none, 1 + j) := by
    rw [stepN, if_neg (by omega), H.shape]
    dsimp only
    obtain ⟨m, hm⟩ : ∃ m, cs.length = (cs.take j).length + (m + 1) := ⟨cs.length - j - 1, by rw [hlen]; omega⟩
    have := cont_run (r := r) (m := m + 1) (v := f % (if cs.length = 1 then 32 else if cs.length = 2 then 16 else 8)) (H.ok.take (j := j))
    rw [← hm] at this
    rw [this, hlen]
    cases r with
    | nil => rfl
    | cons x r =>
      rw [contN, if_neg]
      have := hr x rfl
      have := H.lo_ge
      have := H.hi_le
      split <;> omega
  rw [this]
  show 65533 :: dN ((f :: (cs.take j ++ r)).drop (1 + j)) = _
  rw [Nat.add_comm, List.drop_succ_cons, List.drop_append_of_le_length (by omega), List.drop_eq_nil_of_le (by omega)]; rfl
theorem oct_pos (c : Nat) : 1 ≤ (oct c).length ∧ (oct c).length ≤ 4 := by unfold oct; split; simp; split; simp; split <;> simp
theorem oct_byte {c : Nat} (h : Val c) : Oct (oct c) := by
  intro o ho
  by_cases h1 : c < 128
  · rw [oct_small h1] at ho; simp at ho; omega
  · obtain ⟨f, lo, hi, cs, H⟩ := head_of h (by omega)
    rw [H.oct] at ho
    rcases List.mem_cons.mp ho with e | e
    · rw [e]; exact H.lt
    · have := ContOk.mem H.lo_ge H.hi_le H.ok o e; omega
theorem oct_fresh {c : Nat} (h : Val c) (r : List Nat) : Fresh (oct c ++ r) := by
  intro x hx
  by_cases h1 : c < 128
  · rw [oct_small h1] at hx; simp at hx; omega
  · obtain ⟨f, lo, hi, cs, H⟩ := head_of h (by omega)
    rw [H.oct] at hx; simp at hx
    have := H.ge; omega
theorem oct_tail {c a o : Nat} (h : Val c) (ha : 1 ≤ a) (ho : (oct c)[a]? = some o) : 128 ≤ o ∧ o < 192 := by
  obtain ⟨a, rfl⟩ : ∃ i, a = i + 1 := ⟨a - 1, by omega⟩
  by_cases h1 : c < 128
  · rw [oct_small h1] at ho; simp at ho
  · obtain ⟨f, lo, hi, cs, H⟩ := head_of h (by omega)
    rw [H.oct, List.getElem?_cons_succ] at ho
    have := ContOk.mem H.lo_ge H.hi_le H.ok o (List.mem_of_getElem? ho); omega
theorem fresh_nil : Fresh [] := nofun
def octs (ps : List Nat) : List Nat := ps.flatMap oct
theorem dN_octs : ∀ {ps : List Nat}, (∀ c ∈ ps, Val c) → ∀ r, dN (octs ps ++ r) = ps ++ dN r
  | [], _, r => rfl
  | c :: ps, h, r => by
    show dN ((oct c ++ octs ps) ++ r) = _
    rw [List.append_assoc, dN_sign (h c (.head _)), dN_octs fun d hd => h d (.tail _ hd)]; rfl
/-- a sign's octets turned round -/
theorem dN_turn {c : Nat} (h : Val c) (r : List Nat) : dN ((oct c).reverse ++ 45 :: r) = (if (oct c).length = 1 then [c] else List.replicate (oct c).length 65533) ++ 45 :: dN r := by
  have h45 : ∀ r, dN (45 :: r) = 45 :: dN r := fun r => dN_sign (c := 45) ⟨by decide, by decide⟩ r
  have strays : ∀ (cs r : List Nat), (∀ x ∈ cs, 128 ≤ x ∧ x ≤ 191) → dN (cs ++ r) = List.replicate cs.length 65533 ++ dN r := by
    intro cs
    induction cs with
    | nil => intro r _; rfl
    | cons x cs ih =>
      intro r hx
      have h1 := hx x (.head _)
      show dN (x :: (cs ++ r)) = _
      rw [dN_stray h1.1 (by omega), ih r fun y hy => hx y (.tail _ hy)]; rfl
  by_cases h1 : c < 128
  · rw [oct_small h1]
    show dN (c :: 45 :: r) = _
    have := dN_sign h (45 :: r)
    rw [oct_small h1] at this
    rw [show dN (c :: 45 :: r) = c :: dN (45 :: r) from this, h45]; rfl
  · obtain ⟨f, lo, hi, cs, H⟩ := head_of h (by omega)
    have hp := H.pos
    have hlen : (oct c).length = cs.length + 1 := by rw [H.oct]; rfl
    have hcut := dN_cut h (j := 1) (Nat.le_refl _) (by omega) (r := 45 :: r) (fun x hx => by simp at hx; omega)
    rw [H.oct] at hcut
    have hcut : dN (f :: 45 :: r) = 65533 :: dN (45 :: r) := hcut
    rw [hlen, if_neg (by omega), H.oct, List.reverse_cons, List.append_assoc, strays _ _ fun x hx => ContOk.mem H.lo_ge H.hi_le H.ok x (List.mem_reverse.mp hx), List.length_reverse]
    show _ ++ dN (f :: 45 :: r) = _
    rw [hcut, h45, List.replicate_succ', List.append_assoc]; rfl
end Mine
end
section
open PySem PySem.W PyProof.Rows PySem.Calls
set_option maxRecDepth 100000
namespace Mine
/-- which sign, how many octets ahead of this one, how many in all, the octet -/
abbrev E4 := Nat × Nat × Nat × Nat
def ent (w c : Nat) : List E4 := (oct c).zipIdx.map fun x => (w, x.2, (oct c).length, x.1)
def rowFrom : Nat → List Nat → List E4
  | _, [] => []
  | w, c :: ps => ent w c ++ rowFrom (w + 1) ps
def col (r : List E4) : List Nat := r.map fun e => e.2.2.2
theorem col_ent (w c : Nat) : col (ent w c) = oct c := by
  unfold col ent
  rw [List.map_map]
  show (oct c).zipIdx.map (fun x => x.1) = _
  exact List.zipIdx_map_fst 0 (oct c)
theorem col_row : ∀ (w : Nat) (ps : List Nat), col (rowFrom w ps) = octs ps
  | w, [] => rfl
  | w, c :: ps => by
    have := col_row (w + 1) ps
    unfold col at this ⊢
    rw [rowFrom, List.map_append, this]
    have h := col_ent w c
    unfold col at h
    rw [h]; rfl
theorem ent_length (w c : Nat) : (ent w c).length = (oct c).length := by simp [ent]
theorem ent_get {w c p : Nat} {e : E4} (h : (ent w c)[p]? = some e) : ∃ o, (oct c)[p]? = some o ∧ e = (w, p, (oct c).length, o) := by
  unfold ent at h
  rw [List.getElem?_map] at h
  obtain ⟨x, hx, rfl⟩ := Option.map_eq_some_iff.mp h
  rw [List.getElem?_zipIdx] at hx
  obtain ⟨o, ho, rfl⟩ := Option.map_eq_some_iff.mp hx
  exact ⟨o, ho, by simp⟩
/-- what a row's entry says of the octets behind it -/
structure At4 (w0 : Nat) (ps : List Nat) (p : Nat) (e : E4) (c : Nat) : Prop where
  which : ps[e.1 - w0]? = some c
  ge : w0 ≤ e.1
  wide : e.2.2.1 = (oct c).length
  ahead : e.2.1 < (oct c).length
  get : (oct c)[e.2.1]? = some e.2.2.2
  rest : (octs ps).drop p = (oct c).drop e.2.1 ++ octs (ps.drop (e.1 - w0 + 1))
theorem row_get : ∀ {w0 : Nat} {ps : List Nat} {p : Nat} {e : E4}, (rowFrom w0 ps)[p]? = some e → ∃ c, At4 w0 ps p e c
  | w0, [], p, e, h => by simp [rowFrom] at h
  | w0, c :: ps, p, e, h => by
    rw [rowFrom] at h
    by_cases hp : p < (oct c).length
    · rw [List.getElem?_append_left (by rw [ent_length]; exact hp)] at h
      obtain ⟨o, ho, rfl⟩ := ent_get h
      refine ⟨c, ⟨by simp, Nat.le_refl _, rfl, hp, ho, ?_⟩⟩
      show (oct c ++ octs ps).drop p = (oct c).drop p ++ octs ((c :: ps).drop (w0 - w0 + 1))
      rw [List.drop_append_of_le_length (by omega), Nat.sub_self]; rfl
    · rw [List.getElem?_append_right (by rw [ent_length]; omega), ent_length] at h
      obtain ⟨c', H⟩ := row_get h
      have hge := H.ge
      refine ⟨c', ⟨?_, by omega, H.wide, H.ahead, H.get, ?_⟩⟩
      · rw [show e.1 - w0 = (e.1 - (w0 + 1)) + 1 by omega, List.getElem?_cons_succ]; exact H.which
      · show (oct c ++ octs ps).drop p = _
        rw [show p = (oct c).length + (p - (oct c).length) by omega, ← List.drop_drop, List.drop_left, H.rest]
        rw [show e.1 - w0 + 1 = (e.1 - (w0 + 1) + 1) + 1 by omega, List.drop_succ_cons]
theorem row_length (w : Nat) (ps : List Nat) : (rowFrom w ps).length = (octs ps).length := by
  rw [← col_row w ps]; simp [col]
/-- what the law reads from a piece of the row -/
def rdg (row : List E4) (ps : List Nat) (e : Nat) : Nat → Nat → List Nat
  | 0, _ => []
  | k + 1, p => if p < e then match row[p]? with
      | some x => if 0 < x.2.1 then 65533 :: rdg row ps e k (p + 1) else if p + x.2.2.1 ≤ e then ps.getD x.1 0 :: rdg row ps e k (p + x.2.2.1) else [65533]
      | none => []
    else []
theorem rdg_end {row : List E4} {ps : List Nat} {e k p : Nat} (h : ¬ p < e) : rdg row ps e k p = [] := by
  cases k with
  | zero => rfl
  | succ k => rw [rdg, if_neg h]
theorem rdg_fuel {w : Nat} {qs ps : List Nat} {e : Nat} : ∀ (k j p : Nat), e - p ≤ k → e - p ≤ j → rdg (rowFrom w qs) ps e k p = rdg (rowFrom w qs) ps e j p
  | 0, j, p, h1, h2 => by rw [rdg_end (by omega), rdg_end (by omega)]
  | k + 1, 0, p, h1, h2 => by rw [rdg_end (by omega), rdg_end (by omega)]
  | k + 1, j + 1, p, h1, h2 => by
    rw [rdg, rdg]
    by_cases hp : p < e
    · rw [if_pos hp, if_pos hp]
      cases hx : (rowFrom w qs)[p]? with
      | none => rfl
      | some x =>
        obtain ⟨c, H⟩ := row_get hx
        have := (oct_pos c).1
        have hw := H.wide
        dsimp only
        rw [rdg_fuel k j (p + 1) (by omega) (by omega), rdg_fuel k j (p + x.2.2.1) (by omega) (by omega)]
    · rw [if_neg hp, if_neg hp]
def reads (ps : List Nat) (s e : Nat) : List Nat := rdg (rowFrom 0 ps) ps e (e - s) s
theorem reads_end {ps : List Nat} {s e : Nat} (h : ¬ s < e) : reads ps s e = [] := rdg_end h
theorem reads_step {ps : List Nat} {p e : Nat} {x : E4} (hp : p < e) (hx : (rowFrom 0 ps)[p]? = some x) :
    reads ps p e = if 0 < x.2.1 then 65533 :: reads ps (p + 1) e else if p + x.2.2.1 ≤ e then ps.getD x.1 0 :: reads ps (p + x.2.2.1) e else [65533] := by
  obtain ⟨c, H⟩ := row_get hx
  have := (oct_pos c).1
  have hw := H.wide
  unfold reads
  obtain ⟨k, hk⟩ : ∃ k, e - p = k + 1 := ⟨e - p - 1, by omega⟩
  rw [hk, rdg, if_pos hp, hx]
  dsimp only
  rw [rdg_fuel k (e - (p + 1)) (p + 1) (by omega) (by omega), rdg_fuel k (e - (p + x.2.2.1)) (p + x.2.2.1) (by omega) (by omega)]
theorem reads_length (ps : List Nat) : ∀ (k p e : Nat), e - p ≤ k → (reads ps p e).length ≤ e - p := by
  have : ∀ (k p e : Nat), (rdg (rowFrom 0 ps) ps e k p).length ≤ k := by
    intro k
    induction k with
    | zero => intro p e; simp [rdg]
    | succ k ih =>
      intro p e
      rw [rdg]
      split
      · split
        · split
          · have := ih (p + 1) e; simp; omega
          · split
            · rename_i x _ _ _
              have := ih (p + x.2.2.1) e; simp; omega
            · simp
        · simp
      · simp
  intro k p e _
  exact this _ _ _
/-- a piece of the row, read by UTF-8's decoder -/
theorem piece_read {ps : List Nat} (hv : ∀ c ∈ ps, Val c) {e : Nat} (he : e ≤ (octs ps).length) : ∀ (k s : Nat), e - s ≤ k → ∀ r, Fresh r → dN (((octs ps).drop s).take (e - s) ++ r) = reads ps s e ++ dN r := by
  intro k
  induction k with
  | zero =>
    intro s hk r hr
    rw [show e - s = 0 by omega, reads_end (by omega)]; rfl
  | succ k ih =>
    intro s hk r hr
    by_cases hs : s < e
    · obtain ⟨x, hx⟩ : ∃ x, (rowFrom 0 ps)[s]? = some x := ⟨_, List.getElem?_eq_getElem (by rw [row_length]; omega)⟩
      obtain ⟨c, H⟩ := row_get hx
      have hc : Val c := hv c (List.mem_of_getElem? H.which)
      have hpos := oct_pos c
      have hw := H.wide
      have ha := H.ahead
      have hget : ps.getD x.1 0 = c := by
        have := H.which
        rw [Nat.sub_zero] at this
        rw [List.getD_eq_getElem?_getD, this]; rfl
      rw [reads_step hs hx, H.rest, hget]
      -- the rest of the row behind the next place
      have nxt : ∀ d, (octs ps).drop (s + d) = ((oct c).drop x.2.1 ++ octs (ps.drop (x.1 - 0 + 1))).drop d := fun d => by rw [← List.drop_drop, H.rest]
      by_cases h0 : 0 < x.2.1
      · rw [if_pos h0]
        have hd : (oct c).drop x.2.1 = x.2.2.2 :: (oct c).drop (x.2.1 + 1) := by
          rw [List.drop_eq_getElem_cons ha]
          have := H.get
          rw [List.getElem?_eq_getElem ha] at this
          rw [Option.some.inj this]
        have hcont := oct_tail hc h0 H.get
        obtain ⟨m, hm⟩ : ∃ m, e - s = m + 1 := ⟨e - s - 1, by omega⟩
        have h1 := ih (s + 1) (by omega) r hr
        rw [nxt 1, hd] at h1
        rw [hd, hm]
        show dN (x.2.2.2 :: (((oct c).drop (x.2.1 + 1) ++ octs (ps.drop (x.1 - 0 + 1))).take m ++ r)) = _
        rw [dN_stray hcont.1 hcont.2]
        have e1 : e - (s + 1) = m := by omega
        rw [e1] at h1
        show 65533 :: _ = 65533 :: _
        congr 1
      · rw [if_neg h0]
        have hz : x.2.1 = 0 := by omega
        rw [hz, List.drop_zero]
        by_cases hwd : s + x.2.2.1 ≤ e
        · rw [if_pos hwd]
          have h1 := ih (s + x.2.2.1) (by omega) r hr
          rw [nxt x.2.2.1, hz, List.drop_zero, hw, List.drop_left] at h1
          rw [List.take_append, List.take_of_length_le (by omega), List.append_assoc, dN_sign hc]
          rw [show e - (s + (oct c).length) = e - s - (oct c).length by omega] at h1
          rw [hw, h1]; rfl
        · rw [if_neg hwd]
          rw [List.take_append_of_le_length (by omega)]
          rw [dN_cut hc (by omega) (by omega) hr]; rfl
    · rw [show e - s = 0 by omega, reads_end hs]; rfl
/-- pieces with a sign between each two -/
def joinW (b : List Nat) : List (List Nat) → List Nat
  | [] => []
  | [p] => p
  | p :: q :: r => p ++ (b ++ joinW b (q :: r))
theorem joined_read {ps : List Nat} (hv : ∀ c ∈ ps, Val c) {b : Nat} (hb : Val b) : ∀ (cs : List (Nat × Nat)), (∀ x ∈ cs, x.2 ≤ (octs ps).length) →
    dN (joinW (oct b) (cs.map fun x => ((octs ps).drop x.1).take (x.2 - x.1))) = joinW [b] (cs.map fun x => reads ps x.1 x.2)
  | [], _ => rfl
  | [x], h => by
    have := piece_read hv (h x (.head _)) (x.2 - x.1) x.1 (Nat.le_refl _) [] fresh_nil
    rw [List.append_nil, dN_nil, List.append_nil] at this
    exact this
  | x :: y :: r, h => by
    have ih := joined_read hv hb (y :: r) fun z hz => h z (.tail _ hz)
    show dN (((octs ps).drop x.1).take (x.2 - x.1) ++ (oct b ++ joinW (oct b) ((y :: r).map fun x => ((octs ps).drop x.1).take (x.2 - x.1)))) = _
    rw [piece_read hv (h x (.head _)) (x.2 - x.1) x.1 (Nat.le_refl _) _ (oct_fresh hb _), dN_sign hb, ih]; rfl
end Mine
end
section
open PySem PySem.W PyProof.Rows PySem.Calls
set_option maxRecDepth 100000
namespace Mine
namespace L01
open PySem.Challenge
abbrev df (i : Nat) : DefRec := defAt pw_dm0097_01 i
structure Tp (G : Gr) : Prop where
  len : G.mg "len" = none
  chr : G.mg "chr" = none
  list : G.mg "list" = none
  range : G.mg "range" = none
  sorted : G.mg "sorted" = none
  zip : G.mg "zip" = none
  sanitize : ∃ a, FnAt G (df 1) a
  point : ∃ a, FnAt G (df 3) a
  octets : ∃ a, FnAt G (df 4) a
  stray : ∃ a, FnAt G (df 5) a
  reading : ∃ a, FnAt G (df 6) a
section
variable {G : Gr} {n : Nat} {env : Env} {σ : St}
theorem chr_ev {e : Expr} {p q : Pos} {i : Int} (T : Tp G) (hk : env.kindOf "chr" = some .globalImplicit) (h : Ev G n env σ e (.int i)) (h4 : 0 ≤ i) (h5 : i ≤ 1114111)
    (he : starEach [e] env = (false, eval e env) :: starEach [] env := by rfl) (h2 : noStar [e] = true := by rfl) (h3 : (backTo q (starEach [e] env)).any (·.1) = false := by rfl) : Ev G n env σ (.Call (.Name "chr" p) [e] [] q) (.str (S [i.toNat])) :=
  Ev.call (.builtin hk T.chr rfl) (.builtin _) (.cons h .nil he) (CallD.chr h4 h5) h2 h3
def Stray (l : List Nat) : Prop := ∀ c ∈ l, Str.isSurrogate c = true → 56448 ≤ c ∧ c ≤ 56575
def san (l : List Nat) : List Nat := decA (encS l)
theorem encC_len (c : Nat) : (encC c).length ≤ 4 := by
  unfold encC Str.utf8Of
  split
  · simp
  · split; simp; split; simp; split <;> simp
theorem encS_len : ∀ l : List Nat, (encS l).length ≤ 4 * l.length
  | [] => by simp [encS]
  | c :: l => by
    have h1 := encC_len c
    have h2 := encS_len l
    have : encS (c :: l) = encC c ++ encS l := rfl
    rw [this, List.length_append, List.length_cons]; omega
theorem sanitize_ok {l : List Nat} (hs : Stray l) (hl : l.length ≤ 100000) {a : Addr} (F : FnAt G (df 1) a) : CallD G (n + 1) (.ref a) [.str (S l)] (.str (S (san l))) := by
  have hz := encS_len l
  refine CallD.fn1 (x := "string") F (fun env FE => ?_)
  refine Ex.one (Ex1.assign (Ev.meth (.name rfl) .encode (.builtin _) (.cons .str (.cons .str .nil)) (.encode hs (sz (by omega)))) (FE.loc rfl)) ?_
  exact Ex.cons (Ex1.ret (Ev.meth (.name rfl) .decode (.builtin _) (.cons .str (.cons .str .nil)) (.decode (sz (by omega)))).b rfl)
def ptL : List Nat := [0, 127, 128, 2047, 2048, 65535, 65536, 1114111, 55295, 57344, 65533]
def pt (k : Int) : Nat :=
  if k.fmod 6 = 0 then ptL.getD ((k.fdiv 6).fmod 11).toNat 0
  else if k.fmod 6 = 1 then ((k.fdiv 6).fmod 128).toNat
  else if k.fmod 6 = 2 then 128 + ((k.fdiv 6).fmod 1920).toNat
  else if k.fmod 6 = 3 then 65536 + ((k.fdiv 6).fmod 1048576).toNat
  else if k.fmod 6 = 4 then 2048 + ((k.fdiv 6).fmod 53248).toNat
  else 57344 + ((k.fdiv 6).fmod 8192).toNat
theorem fm {k m : Int} (h : 0 < m) : 0 ≤ k.fmod m ∧ k.fmod m < m := ⟨Int.fmod_nonneg_of_pos _ h, Int.fmod_lt_of_pos _ h⟩
theorem ptL_val : ∀ i, i < 11 → Val (ptL.getD i 0) := by
  intro i hi
  match i, hi with
  | 0, _ => exact ⟨by decide, by decide⟩
  | 1, _ => exact ⟨by decide, by decide⟩
  | 2, _ => exact ⟨by decide, by decide⟩
  | 3, _ => exact ⟨by decide, by decide⟩
  | 4, _ => exact ⟨by decide, by decide⟩
  | 5, _ => exact ⟨by decide, by decide⟩
  | 6, _ => exact ⟨by decide, by decide⟩
  | 7, _ => exact ⟨by decide, by decide⟩
  | 8, _ => exact ⟨by decide, by decide⟩
  | 9, _ => exact ⟨by decide, by decide⟩
  | 10, _ => exact ⟨by decide, by decide⟩
def ptI : List Int := [0, 127, 128, 2047, 2048, 65535, 65536, 1114111, 55295, 57344, 65533]
theorem ptI_get {i : Nat} (hi : i < 11) : (ptI.map D.int)[i]? = some (.int ((ptL.getD i 0 : Nat) : Int)) := by
  rw [List.getElem?_map]
  have : ptI[i]? = some ((ptL.getD i 0 : Nat) : Int) := by
    match i, hi with
    | 0, _ => rfl
    | 1, _ => rfl
    | 2, _ => rfl
    | 3, _ => rfl
    | 4, _ => rfl
    | 5, _ => rfl
    | 6, _ => rfl
    | 7, _ => rfl
    | 8, _ => rfl
    | 9, _ => rfl
    | 10, _ => rfl
  rw [this]; rfl
theorem pt_val (k : Int) : Val (pt k) := by
  unfold pt
  generalize k.fdiv 6 = r
  split
  · have := fm (k := r) (m := 11) (by decide)
    exact ptL_val _ (by omega)
  split
  · have := fm (k := r) (m := 128) (by decide); exact ⟨by omega, by omega⟩
  split
  · have := fm (k := r) (m := 1920) (by decide); exact ⟨by omega, by omega⟩
  split
  · have := fm (k := r) (m := 1048576) (by decide); exact ⟨by omega, by omega⟩
  split
  · have := fm (k := r) (m := 53248) (by decide); exact ⟨by omega, by omega⟩
  · have := fm (k := r) (m := 8192) (by decide); exact ⟨by omega, by omega⟩
end
end L01
end Mine
end
section
open PySem PySem.W PyProof.Rows PySem.Calls
set_option maxRecDepth 100000
namespace Mine
namespace L01
open PySem.Challenge
section
variable {G : Gr} {n : Nat} {env : Env} {σ : St}
theorem star_int {i : Int} {k : Nat} {p : Pos} {es : List Expr} : starEach (.Constant (.int i) k p :: es) env = (false, eval (.Constant (.int i) k p) env) :: starEach es env := rfl
theorem EvL.consI {i : Int} {k : Nat} {p : Pos} {es : List Expr} {ds : List D} (hs : EvL G n env σ es ds) : EvL G n env σ (.Constant (.int i) k p :: es) (.int i :: ds) := EvL.cons .int hs star_int
set_option maxHeartbeats 400000 in
theorem point_ok {k : Int} (T : Tp G) {a : Addr} (F : FnAt G (df 3) a) : CallD G (n + 1) (.ref a) [.int k] (.int (pt k : Nat)) := by
  generalize hp : pt k = v
  refine CallD.fn1 (x := "number") F (fun env FE => ?_)
  refine Ex.one (Ex1.assign (.binop (.name rfl) .int (.mod (by decide))) (FE.loc rfl)) ?_
  refine Ex.one (Ex1.assign (.binop (.name rfl) .int (.fdiv (by decide) (by decide))) (FE.loc rfl)) ?_
  have hpt := hp
  unfold pt at hpt
  generalize k.fmod 6 = kind at *
  generalize k.fdiv 6 = r at *
  have up : ∀ {a m : Int}, 0 < m → 0 ≤ a → ((a.toNat + (r.fmod m).toNat : Nat) : Int) = a + r.fmod m := fun hm ha => by have := fm (k := r) hm; omega
  by_cases h0 : kind = 0
  · have hr := fm (k := r) (m := 11) (by decide)
    rw [if_pos h0] at hpt
    have hget := ptI_get (i := (r.fmod 11).toNat) (by omega)
    rw [hpt] at hget
    refine Ex.cons (Ex1.ite (c := true) (Tr.cast (Tr.cmp (Ev.name rfl).b Ev.int.b .eq_int) (by simp [h0])) (fun _ => ?_) (fun h => Bool.noConfusion h))
    have hlen : (ptI.map D.int).length ≤ sizeLine := by decide
    refine Ex.cons ?_
    have hq : ∀ {Q : Fl → St → Prop} {σ : St} {e : Expr} {p : Pos}, Ev G n env σ e (.int (v : Nat)) → Q (.ret (.int (v : Nat))) σ → Ex1 G n env σ (.Return (some e) p) Q := fun h q => Ex1.ret h.b q
    refine hq ?l0 ?q0
    case q0 => exact rfl
    case l0 =>
    have hi : ∀ {σ : St} {o i : Expr} {p : Pos}, Ev G n env σ o (.list (ptI.map .int)) → Ev G n env σ i (.int (r.fmod 11)) → (∀ a b, ∃ ops, subscripted i false a b = operate ops (getItem a b)) → Ev G n env σ (.Subscript o i p) (.int (v : Nat)) := fun h1 h2 h3 => Ev.item h1 h2 (.list hr.1 (by omega) hget) h3
    refine hi ?l1 ?l2 ?l3
    case l3 => exact fun a b => ⟨[a, b], rfl⟩
    case l2 => exact .binop (.name rfl) .int (.mod (by decide))
    case l1 =>
      refine Ev.list ?_ hlen
      show EvL G n env _ _ [.int 0, .int 127, .int 128, .int 2047, .int 2048, .int 65535, .int 65536, .int 1114111, .int 55295, .int 57344, .int 65533]
      iterate 11 refine EvL.consI ?_
      exact .nil
  rw [if_neg h0] at hpt
  refine Ex.cons (Ex1.ite (c := false) (Tr.cast (Tr.cmp (Ev.name rfl).b Ev.int.b .eq_int) (by simp [h0])) (fun h => Bool.noConfusion h) (fun _ => Ex.nil ?_))
  by_cases h1 : kind = 1
  · rw [if_pos h1] at hpt
    have := up (a := 0) (m := 128) (by decide) (by decide)
    simp at this
    refine Ex.cons (Ex1.ite (c := true) (Tr.cast (Tr.cmp (Ev.name rfl).b Ev.int.b .eq_int) (by simp [h1])) (fun _ => ?_) (fun h => Bool.noConfusion h))
    refine Ex.cons (Ex1.ret ((Ev.binop (.name rfl) .int (.mod (by decide))).cast (d' := .int (v : Nat)) (by rw [← hpt, ← this]; simp)).b rfl)
  rw [if_neg h1] at hpt
  refine Ex.cons (Ex1.ite (c := false) (Tr.cast (Tr.cmp (Ev.name rfl).b Ev.int.b .eq_int) (by simp [h1])) (fun h => Bool.noConfusion h) (fun _ => Ex.nil ?_))
  by_cases h2 : kind = 2
  · rw [if_pos h2] at hpt
    have := up (a := 128) (m := 1920) (by decide) (by decide)
    refine Ex.cons (Ex1.ite (c := true) (Tr.cast (Tr.cmp (Ev.name rfl).b Ev.int.b .eq_int) (by simp [h2])) (fun _ => ?_) (fun h => Bool.noConfusion h))
    refine Ex.cons (Ex1.ret ((Ev.binop .int (.binop (.name rfl) .int (.mod (by decide))) .add).cast (d' := .int (v : Nat)) (by rw [← hpt, ← this]; rfl)).b rfl)
  rw [if_neg h2] at hpt
  refine Ex.cons (Ex1.ite (c := false) (Tr.cast (Tr.cmp (Ev.name rfl).b Ev.int.b .eq_int) (by simp [h2])) (fun h => Bool.noConfusion h) (fun _ => Ex.nil ?_))
  by_cases h3 : kind = 3
  · rw [if_pos h3] at hpt
    have := up (a := 65536) (m := 1048576) (by decide) (by decide)
    refine Ex.cons (Ex1.ite (c := true) (Tr.cast (Tr.cmp (Ev.name rfl).b Ev.int.b .eq_int) (by simp [h3])) (fun _ => ?_) (fun h => Bool.noConfusion h))
    refine Ex.cons (Ex1.ret ((Ev.binop .int (.binop (.name rfl) .int (.mod (by decide))) .add).cast (d' := .int (v : Nat)) (by rw [← hpt, ← this]; rfl)).b rfl)
  rw [if_neg h3] at hpt
  refine Ex.cons (Ex1.ite (c := false) (Tr.cast (Tr.cmp (Ev.name rfl).b Ev.int.b .eq_int) (by simp [h3])) (fun h => Bool.noConfusion h) (fun _ => Ex.nil ?_))
  by_cases h4 : kind = 4
  · rw [if_pos h4] at hpt
    have := up (a := 2048) (m := 53248) (by decide) (by decide)
    refine Ex.cons (Ex1.ite (c := true) (Tr.cast (Tr.cmp (Ev.name rfl).b Ev.int.b .eq_int) (by simp [h4])) (fun _ => ?_) (fun h => Bool.noConfusion h))
    refine Ex.cons (Ex1.ret ((Ev.binop .int (.binop (.name rfl) (.binop .int .int .sub) (.mod (by decide))) .add).cast (d' := .int (v : Nat)) (by
      show D.int (2048 + r.fmod 53248) = _
      rw [← hpt, ← this]; rfl)).b rfl)
  rw [if_neg h4] at hpt
  refine Ex.cons (Ex1.ite (c := false) (Tr.cast (Tr.cmp (Ev.name rfl).b Ev.int.b .eq_int) (by simp [h4])) (fun h => Bool.noConfusion h) (fun _ => Ex.nil ?_))
  have := up (a := 57344) (m := 8192) (by decide) (by decide)
  refine Ex.cons (Ex1.ret ((Ev.binop .int (.binop (.name rfl) .int (.mod (by decide))) .add).cast (d' := .int (v : Nat)) (by rw [← hpt, ← this]; rfl)).b rfl)
end
end L01
end Mine
end
section
open PySem PySem.W PyProof.Rows PySem.Calls
set_option maxRecDepth 100000
namespace Mine
namespace L01
open PySem.Challenge
theorem nfmod (x m : Nat) : (x : Int).fmod (m : Int) = ((x % m : Nat) : Int) := by
  rw [Int.fmod_eq_emod_of_nonneg _ (by omega)]; rfl
theorem nfdiv (x m : Nat) : (x : Int).fdiv (m : Int) = ((x / m : Nat) : Int) := by
  rw [Int.fdiv_eq_ediv_of_nonneg _ (by omega)]; rfl
section
variable {G : Gr} {n : Nat} {env : Env} {σ : St}
def tl (c j : Nat) : List Nat := (List.range j).map fun i => 128 + c / 64 ^ i % 64
theorem tl_succ (c j : Nat) : tl c (j + 1) = tl c j ++ [128 + c / 64 ^ j % 64] := by simp [tl, List.range_succ]
def Got (c : Nat) (j : Nat) : Prop := j ≤ 3 ∧ ∀ i < j, 64 / 2 ^ i ≤ c / 64 ^ i
theorem oct_end {c j : Nat} (hc : Val c) (h1 : 128 ≤ c) (hg : Got c j) (hd : ¬ 64 / 2 ^ j ≤ c / 64 ^ j) : (256 : Int) - 2 * ((64 / 2 ^ j : Nat) : Int) + ((c / 64 ^ j : Nat) : Int) = ((256 - 2 * (64 / 2 ^ j) + c / 64 ^ j : Nat) : Int) ∧ (tl c j ++ [256 - 2 * (64 / 2 ^ j) + c / 64 ^ j]).reverse = oct c := by
  obtain ⟨h2, h3⟩ := hg
  have hlt := hc.1
  match j, h2 with
  | 0, _ => simp at hd; omega
  | 1, _ =>
    simp at hd
    refine ⟨by omega, ?_⟩
    rw [oct, if_neg (by omega), if_pos (by omega)]
    simp [tl]
  | 2, _ =>
    have := h3 1 (by decide)
    simp at hd this
    refine ⟨by omega, ?_⟩
    rw [oct, if_neg (by omega), if_neg (by omega), if_pos (by omega)]
    simp [tl, List.range_succ]
  | 3, _ =>
    have := h3 2 (by decide)
    simp at hd this
    refine ⟨by omega, ?_⟩
    rw [oct, if_neg (by omega), if_neg (by omega), if_neg (by omega)]
    simp [tl, List.range_succ]
set_option maxHeartbeats 2000000 in
theorem octets_ok {c : Nat} (T : Tp G) (hc : Val c) {a : Addr} (F : FnAt G (df 4) a) : CallD G (n + 1) (.ref a) [.int (c : Nat)] (.list (nums (oct c))) := by
  refine CallD.fn1 (x := "point") F (fun env FE => ?_)
  by_cases h1 : c < 128
  · refine Ex.cons (Ex1.ite (c := true) ((Tr.cmp (Ev.name rfl).b Ev.int.b .lt_int).cast (by simp; omega)) (fun _ => ?_) nofun)
    refine Ex.cons (Ex1.ret (Ev.list (ds := [.int (c : Nat)]) (.cons (.name rfl) .nil) (sz (by simp))).b ?_)
    rw [oct_small h1]; rfl
  refine Ex.cons (Ex1.ite (c := false) ((Tr.cmp (Ev.name rfl).b Ev.int.b .lt_int).cast (by simp; omega)) nofun (fun _ => Ex.nil ?_))
  refine Ex.step (Ex1.assignF (EvF.list .nil (by decide)) (FE.loc rfl)) ?_
  rintro _ ⟨a₀, rfl⟩
  refine Ex.one (Ex1.assign .int (FE.loc rfl)) ?_
  refine Ex.whileS (ι := {q : Nat × Addr // Got c q.1}) (fun q => [("point", .val (.int ((c / 64 ^ q.1.1 : Nat) : Int))), ("octets", .own q.1.2 (nums (tl c q.1.1))), ("room", .val (.int ((64 / 2 ^ q.1.1 : Nat) : Int)))]) (fun q => 4 - q.1.1) (fun q => decide (64 / 2 ^ q.1.1 ≤ c / 64 ^ q.1.1)) ⟨(0, a₀), Nat.zero_le _, nofun⟩ ⟨by simp; rfl, rfl, by simp; rfl, trivial⟩ (fun _ => by simp; decide) ?_ ?_ ?_
  · rintro ⟨⟨j, b⟩, hg⟩
    refine (Tr.cmp (Ev.name rfl).b (Ev.name rfl).b .ge_int).cast ?_
    dsimp only
    rw [Bool.eq_iff_iff]; simp only [decide_eq_true_eq]; exact Int.ofNat_le
  · rintro ⟨⟨j, b⟩, hg⟩ hcnd
    have hcnd : 64 / 2 ^ j ≤ c / 64 ^ j := of_decide_eq_true hcnd
    have hj : j + 1 ≤ 3 := by
      obtain ⟨h2, h3⟩ := hg
      have hlt := hc.1
      have h2 : j ≤ 3 := h2
      rcases Nat.lt_or_ge j 3 with q | q
      · exact q
      · have : j = 3 := by omega
        subst this
        simp at hcnd; omega
    have hg' : Got c (j + 1) := ⟨hj, fun i hi => by
      rcases Nat.lt_or_ge i j with q | q
      · exact hg.2 i q
      · have : i = j := by omega
        subst this; exact hcnd⟩
    have htl : (tl c j).length = j := by simp [tl]
    refine Ex.one (Ex1.append (d := .int ((128 + c / 64 ^ j % 64 : Nat) : Int)) rfl ((Ev.binop .int (.binop (.name rfl) .int (.mod (by decide))) .add).cast ?_) ?_) ?_
    · show D.int (128 + ((c / 64 ^ j : Nat) : Int).fmod ((64 : Nat) : Int)) = _
      rw [nfmod]; simp
    · dsimp only; rw [nums, List.length_map, htl]; unfold sizeLine; omega
    refine Ex.one (Ex1.assign (d := .int ((c / 64 ^ (j + 1) : Nat) : Int)) ((Ev.binop (.name rfl) .int (.fdiv (by decide) (by decide))).cast ?_) (FE.loc rfl)) ?_
    · show D.int (((c / 64 ^ j : Nat) : Int).fdiv ((64 : Nat) : Int)) = _
      rw [nfdiv, Nat.div_div_eq_div_mul, ← Nat.pow_succ]
    refine Ex.one (Ex1.assign (d := .int ((64 / 2 ^ (j + 1) : Nat) : Int)) ((Ev.binop (.name rfl) .int (.fdiv (by decide) (by decide))).cast ?_) (FE.loc rfl)) ?_
    · show D.int (((64 / 2 ^ j : Nat) : Int).fdiv ((2 : Nat) : Int)) = _
      rw [nfdiv, Nat.div_div_eq_div_mul, ← Nat.pow_succ]
    refine Ex.nil ⟨⟨(j + 1, b), hg'⟩, by dsimp only; omega, rfl, ?_, rfl, trivial⟩
    show some _ = some _
    dsimp only
    rw [tl_succ]; simp [nums]
  · rintro ⟨⟨j, b⟩, hg⟩ hcnd
    have hcnd : ¬ 64 / 2 ^ j ≤ c / 64 ^ j := of_decide_eq_false hcnd
    obtain ⟨e1, e2⟩ := oct_end hc (by omega) hg hcnd
    have htl : (tl c j).length = j := by simp [tl]
    have hj : j ≤ 3 := hg.1
    refine Ex.one (Ex1.append (d := .int ((256 - 2 * (64 / 2 ^ j) + c / 64 ^ j : Nat) : Int)) rfl ((Ev.binop (Ev.binop .int (.binop .int (.name rfl) (.mul (mulOk_left (by decide) (by decide)))) .sub) (.name rfl) .add).cast (by rw [← e1])) ?_) ?_
    · dsimp only; rw [nums, List.length_map, htl]; unfold sizeLine; omega
    refine Ex.freeze (x := "octets") rfl ?_
    have hlen : (tl c j ++ [256 - 2 * (64 / 2 ^ j) + c / 64 ^ j]).length = j + 1 := by simp [tl]
    refine Ex.cons (Ex1.ret ((Ev.item (ds := nums (tl c j ++ [256 - 2 * (64 / 2 ^ j) + c / 64 ^ j])) (.name (by show some _ = some _; simp [nums])) (.slice .none .none (.some (.neg .int))) (.slice rfl rfl rfl (by decide) (by rw [nums, List.length_map, hlen]; exact sz (by omega)))).cast ?_).b rfl)
    show D.list (pickD _ none none (some (-1))) = _
    rw [pickD_rev, nums, ← List.map_reverse, e2]; rfl
def stray (os : List Nat) : List Nat := os.map fun o => if o < 128 then o else 56320 + o
def sg (l : List Nat) : List D := l.map fun c => .str (S [c])
theorem flat_ones : ∀ l : List Nat, (l.map fun c => [c]).flatten = l
  | [] => rfl
  | c :: l => by rw [List.map_cons, List.flatten_cons, flat_ones l]; rfl
theorem sg_join (l : List Nat) : Txt.join (S []) (l.map fun c => S [c]) = S l := by
  have := join_none (l.map fun c => [c])
  rw [List.map_map, flat_ones] at this
  exact this
theorem sg_joinOk {l : List Nat} (h : l.length ≤ 16000) : JoinOk (S []) (l.map fun c => S [c]) = true := by
  have := joinOk_none (ls := l.map fun c => [c]) (by rw [flat_ones]; exact sz (by omega))
  rwa [List.map_map] at this
set_option maxHeartbeats 1000000 in
theorem stray_ok {os : List Nat} (T : Tp G) (ho : Oct os) (hl : os.length ≤ 3000) {a : Addr} (F : FnAt G (df 5) a) : CallD G (n + 1) (.ref a) [.list (nums os)] (.str (S (stray os))) := by
  refine CallD.fn1 (x := "octets") F (fun env FE => ?_)
  refine Ex.step (Ex1.assignF (EvF.list .nil (by decide)) (FE.loc rfl)) ?_
  rintro _ ⟨a₀, rfl⟩
  refine Ex.forS (f := fun d => setS "octet" (.val d)) (ds := nums os) (fun i a => [("octets", .val (.list (nums os))), ("signs", .own a (sg (stray (os.take i))))]) a₀ ⟨rfl, rfl, trivial⟩ (fun _ _ => by simp; decide) (.of_ev (.name rfl) .list) (fun d _ => .name (FE.loc rfl)) ?_ ?_
  · intro i d p hd
    unfold nums at hd
    rw [List.getElem?_map] at hd
    obtain ⟨o, hd', rfl⟩ := Option.map_eq_some_iff.mp hd
    clear hd; have hd := hd'; clear hd'
    have hlt : i < os.length := (List.getElem?_eq_some_iff.mp hd).1
    have hob : o < 256 := ho o (List.mem_of_getElem? hd)
    have htk : os.take (i + 1) = os.take i ++ [o] := by rw [List.take_add_one, hd]; rfl
    have hz : (sg (stray (os.take i))).length < sizeLine := by simp [sg, stray]; unfold sizeLine; omega
    rw [htk]
    by_cases h : o < 128
    · refine Ex.cons (Ex1.ite (c := true) ((Tr.cmp (Ev.name rfl).b Ev.int.b .lt_int).cast (by simp; omega)) (fun _ => ?_) nofun)
      refine Ex.one (Ex1.append rfl (chr_ev T (FE.kind rfl) (.name rfl) (by omega) (by omega)) hz) (Ex.nil (Ex.nil ⟨p, rfl, ?_, trivial⟩))
      show some _ = some _
      simp [sg, stray, h]
    · refine Ex.cons (Ex1.ite (c := false) ((Tr.cmp (Ev.name rfl).b Ev.int.b .lt_int).cast (by simp; omega)) nofun (fun _ => ?_))
      refine Ex.one (Ex1.append rfl (chr_ev T (FE.kind rfl) (.binop .int (.name rfl) .add) (by omega) (by omega)) hz) (Ex.nil (Ex.nil ⟨p, rfl, ?_, trivial⟩))
      show some _ = some _
      have e : ((56320 : Int) + (o : Int)).toNat = 56320 + o := by omega
      rw [e]
      simp [sg, stray, h]
  · intro p
    rw [show (nums os).length = os.length by simp [nums], List.take_length]
    refine Ex.cons (Ex1.ret ((Ev.methB (ds := [.list (((stray os).map fun c => S [c]).map .str)]) Ev.str.b .join (.builtin _) (.cons ((EvB.own rfl).castB (by simp [sg])) .nil) (.join (sg_joinOk (by simp [stray]; omega))) rfl).cast (by rw [sg_join])).b rfl)
end
end L01
end Mine
end
section
open PySem PySem.W PyProof.Rows PySem.Calls
set_option maxRecDepth 100000
namespace Mine
namespace L01
open PySem.Challenge
theorem val_not {c : Nat} (h : Val c) : Str.isSurrogate c = false := by
  unfold Str.isSurrogate
  have := h.2
  simp; omega
theorem enc_sign {c : Nat} (h : Val c) : encC c = U (oct c) := by
  rw [encC, if_neg (by rw [val_not h]; decide)]
  unfold Str.utf8Of oct U
  split
  · rfl
  split
  · rfl
  split <;> rfl
theorem enc_octet {o : Nat} (h : o < 256) : encC (if o < 128 then o else 56320 + o) = U [o] := by
  by_cases h1 : o < 128
  · rw [if_pos h1]
    have := enc_sign (c := o) ⟨by omega, by omega⟩
    rw [oct_small h1] at this
    exact this
  · rw [if_neg h1, encC, if_pos (by unfold Str.isSurrogate; simp; omega)]
    rw [Nat.add_sub_cancel_left]; rfl
theorem U_append (a b : List Nat) : U (a ++ b) = U a ++ U b := by simp [U]
theorem enc_stray : ∀ {os : List Nat}, Oct os → encS (stray os) = U os
  | [], _ => rfl
  | o :: os, h => by
    show encC (if o < 128 then o else 56320 + o) ++ encS (stray os) = _
    rw [enc_octet (h o (.head _)), enc_stray fun x hx => h x (.tail _ hx)]; rfl
theorem stray_stray {os : List Nat} (h : Oct os) : Stray (stray os) := by
  intro c hc hs
  obtain ⟨o, ho, rfl⟩ := List.mem_map.mp hc
  have := h o ho
  by_cases h1 : o < 128
  · simp only [h1, if_true] at hs ⊢
    unfold Str.isSurrogate at hs; simp at hs; omega
  · simp only [h1, if_false]; omega
theorem val_stray {c : Nat} (h : Val c) : Stray [c] := fun d hd hs => by
  rw [List.mem_singleton.mp hd, val_not h] at hs; cases hs
theorem Stray.append {l m : List Nat} (h1 : Stray l) (h2 : Stray m) : Stray (l ++ m) := fun c hc => (List.mem_append.mp hc).elim (h1 c) (h2 c)
theorem san_stray {os : List Nat} (h : Oct os) : san (stray os) = dN os := by
  unfold san; rw [enc_stray h, decA_U h]
theorem octs_byte {ps : List Nat} (hv : ∀ c ∈ ps, Val c) : Oct (octs ps) := fun o ho => by
  obtain ⟨c, hc, ho⟩ := List.mem_flatMap.mp ho
  exact oct_byte (hv c hc) o ho
theorem octApp {a b : List Nat} (h1 : Oct a) (h2 : Oct b) : Oct (a ++ b) := fun o ho => (List.mem_append.mp ho).elim (h1 o) (h2 o)
theorem octCut {a : List Nat} (h : Oct a) (s k : Nat) : Oct ((a.drop s).take k) := fun o ho => h o (List.mem_of_mem_drop (List.mem_of_mem_take ho))
theorem enc_join {b : Nat} (hb : Val b) : ∀ (qs : List (List Nat)), (∀ q ∈ qs, Oct q) → encS (joinW [b] (qs.map stray)) = U (joinW (oct b) qs) ∧ Oct (joinW (oct b) qs) ∧ Stray (joinW [b] (qs.map stray))
  | [], _ => ⟨rfl, nofun, nofun⟩
  | [q], h => ⟨enc_stray (h q (.head _)), h q (.head _), stray_stray (h q (.head _))⟩
  | q :: q' :: r, h => by
    obtain ⟨h1, h2, h3⟩ := enc_join hb (q' :: r) fun x hx => h x (.tail _ hx)
    have hq := h q (.head _)
    refine ⟨?_, octApp hq (octApp (oct_byte hb) h2), (stray_stray hq).append ((val_stray hb).append h3)⟩
    show encS (stray q ++ ([b] ++ joinW [b] ((q' :: r).map stray))) = U (q ++ (oct b ++ joinW (oct b) (q' :: r)))
    rw [encS_append, encS_append, h1, enc_stray hq, U_append, U_append]
    congr 2
    show encC b ++ [] = _
    rw [List.append_nil, enc_sign hb]
theorem san_join {ps : List Nat} (hv : ∀ c ∈ ps, Val c) {b : Nat} (hb : Val b) (cs : List (Nat × Nat)) (hc : ∀ x ∈ cs, x.2 ≤ (octs ps).length) :
    san (joinW [b] ((cs.map fun x => ((octs ps).drop x.1).take (x.2 - x.1)).map stray)) = joinW [b] (cs.map fun x => reads ps x.1 x.2) ∧ Stray (joinW [b] ((cs.map fun x => ((octs ps).drop x.1).take (x.2 - x.1)).map stray)) := by
  obtain ⟨h1, h2, h3⟩ := enc_join hb (cs.map fun x => ((octs ps).drop x.1).take (x.2 - x.1)) fun q hq => by
    obtain ⟨x, _, rfl⟩ := List.mem_map.mp hq
    exact octCut (octs_byte hv) _ _
  refine ⟨?_, h3⟩
  unfold san
  rw [h1, decA_U h2, joined_read hv hb cs hc]
def turnS (c : Nat) : List Nat := stray (oct c).reverse ++ [45]
def markS (c : Nat) : List Nat := (if (oct c).length = 1 then [c] else List.replicate (oct c).length 65533) ++ [45]
theorem rev_byte {c : Nat} (h : Val c) : Oct (oct c).reverse := fun o ho => oct_byte h o (List.mem_reverse.mp ho)
theorem enc_turn {c : Nat} (h : Val c) : encS (turnS c) = U ((oct c).reverse ++ [45]) := by
  unfold turnS
  rw [encS_append, enc_stray (rev_byte h), U_append]; rfl
theorem san_turn : ∀ {ps : List Nat}, (∀ c ∈ ps, Val c) → encS (ps.map turnS).flatten = U (ps.map fun c => (oct c).reverse ++ [45]).flatten ∧ Oct (ps.map fun c => (oct c).reverse ++ [45]).flatten ∧ Stray (ps.map turnS).flatten ∧ dN (ps.map fun c => (oct c).reverse ++ [45]).flatten = (ps.map markS).flatten
  | [], _ => ⟨rfl, nofun, nofun, rfl⟩
  | c :: ps, h => by
    obtain ⟨h1, h2, h3, h4⟩ := san_turn (ps := ps) fun d hd => h d (.tail _ hd)
    have hc := h c (.head _)
    have h45 : Oct [45] := fun o ho => by rw [List.mem_singleton.mp ho]; decide
    refine ⟨?_, octApp (octApp (rev_byte hc) h45) h2, ((stray_stray (rev_byte hc)).append (val_stray (c := 45) ⟨by decide, by decide⟩)).append h3, ?_⟩
    · rw [List.map_cons, List.flatten_cons, List.map_cons, List.flatten_cons, encS_append, h1, enc_turn hc, ← U_append]
    · rw [List.map_cons, List.flatten_cons, List.map_cons, List.flatten_cons, List.append_assoc]
      show dN ((oct c).reverse ++ 45 :: (ps.map fun c => (oct c).reverse ++ [45]).flatten) = _
      rw [dN_turn hc, h4, markS, List.append_assoc]; rfl
theorem san_turned {ps : List Nat} (hv : ∀ c ∈ ps, Val c) : san (ps.map turnS).flatten = (ps.map markS).flatten := by
  obtain ⟨h1, h2, h3, h4⟩ := san_turn hv
  unfold san; rw [h1, decA_U h2, h4]
def mixS (b : Bool) (c : Nat) : List Nat := if b then stray (oct c) else [c]
theorem enc_mix {c : Nat} (h : Val c) (b : Bool) : encS (mixS b c) = U (oct c) ∧ Stray (mixS b c) := by
  cases b with
  | true => exact ⟨enc_stray (oct_byte h), stray_stray (oct_byte h)⟩
  | false =>
    refine ⟨?_, val_stray h⟩
    show encC c ++ [] = _
    rw [List.append_nil, enc_sign h]
theorem mix_flat {ps : List Nat} (hv : ∀ c ∈ ps, Val c) (f : Nat → Bool) : ∀ (js : List Nat), (∀ j ∈ js, j < ps.length) → encS (js.map fun j => mixS (f j) (ps.getD j 0)).flatten = U (octs (js.map fun j => ps.getD j 0)) ∧ Stray (js.map fun j => mixS (f j) (ps.getD j 0)).flatten
  | [], _ => ⟨rfl, nofun⟩
  | j :: js, h => by
    obtain ⟨h1, h2⟩ := mix_flat hv f js fun i hi => h i (.tail _ hi)
    have hj := h j (.head _)
    have hc : Val (ps.getD j 0) := by
      rw [List.getD_eq_getElem?_getD, List.getElem?_eq_getElem hj]
      exact hv _ (List.getElem_mem hj)
    obtain ⟨e1, e2⟩ := enc_mix hc (f j)
    refine ⟨?_, e2.append h2⟩
    rw [List.map_cons, List.flatten_cons, encS_append, e1, h1, List.map_cons, ← U_append]; rfl
theorem all_getD (ps : List Nat) : (List.range ps.length).map (fun j => ps.getD j 0) = ps := by
  apply List.ext_getElem?
  intro i
  rw [List.getElem?_map]
  by_cases h : i < ps.length
  · rw [List.getElem?_range h, List.getElem?_eq_getElem h]
    simp [List.getD_eq_getElem?_getD, List.getElem?_eq_getElem h]
  · rw [List.getElem?_eq_none (by simpa using h), List.getElem?_eq_none (by omega)]; rfl
theorem san_mixed {ps : List Nat} (hv : ∀ c ∈ ps, Val c) (f : Nat → Bool) : san ((List.range ps.length).map fun j => mixS (f j) (ps.getD j 0)).flatten = ps ∧ Stray ((List.range ps.length).map fun j => mixS (f j) (ps.getD j 0)).flatten := by
  obtain ⟨h1, h2⟩ := mix_flat hv f (List.range ps.length) fun j hj => by simpa using hj
  refine ⟨?_, h2⟩
  unfold san
  rw [h1, all_getD, decA_U (octs_byte hv)]
  have := dN_octs hv []
  rw [List.append_nil, dN_nil, List.append_nil] at this
  exact this
theorem san_whole {ps : List Nat} (hv : ∀ c ∈ ps, Val c) : san (stray (octs ps)) = ps := by
  rw [san_stray (octs_byte hv)]
  have := dN_octs hv []
  rw [List.append_nil, dN_nil, List.append_nil] at this
  exact this
theorem san_piece {ps : List Nat} (hv : ∀ c ∈ ps, Val c) {s e : Nat} (he : e ≤ (octs ps).length) : san (stray (((octs ps).drop s).take (e - s))) = reads ps s e := by
  rw [san_stray (octCut (octs_byte hv) _ _)]
  have := piece_read hv he (e - s) s (Nat.le_refl _) [] fresh_nil
  rw [List.append_nil, dN_nil, List.append_nil] at this
  exact this
end L01
end Mine
end
section
open PySem PySem.W PyProof.Rows PySem.Calls
set_option maxRecDepth 100000
namespace Mine
namespace L01
open PySem.Challenge
section
variable {G : Gr} {n : Nat} {env : Env} {σ : St}
theorem CallD.fn4 {d : DefRec} {a : Addr} {d1 d2 d3 d4 r : D} {x y z w : Str} (F : FnAt G d a) (h : ∀ env, FEnv env d.scope → Ex G n env [(x, .val d1), (y, .val d2), (z, .val d3), (w, .val d4)] d.body fun fl _ => fl = .ret r)
    (hx : d.params.args.map (·.arg) = [x, y, z, w] := by rfl) (hnd : [x, y, z, w].Nodup := by decide) (hb : ∀ pm code doc v1 v2 v3 v4, bindArgs (docDef d.name d.params d.body d.scope pm code doc) ⟨[v1, v2, v3, v4], []⟩ = pure [(x, v1), (y, v2), (z, v3), (w, v4)] := by intros; rfl)
    (hkind : (d.params.args.all fun y => d.scope.names.lookup y.arg == some .local || d.scope.names.lookup y.arg == some .cell) = true := by rfl)
    (hco : d.scope.isCoroutine = false := by rfl) (hgen : d.scope.isGenerator = false := by rfl) (hk : d.scope.kind = .function := by rfl) : CallD G (n + 1) (.ref a) [d1, d2, d3, d4] r := by
  refine CallD.def F (by rw [← List.length_map (f := fun y : Arg => y.arg), hx]; rfl) (fun pm code doc vs hl => ?_) hkind (by rw [hx]; exact hnd) (fun env FE => ?_) hco hgen hk
  · rw [hx]
    match vs, hl with
    | [v1, v2, v3, v4], _ => exact hb pm code doc v1 v2 v3 v4
  · rw [hx]; exact h env FE
def entD (e : E4) : D := .tuple [.int (e.1 : Nat), .int (e.2.1 : Nat), .int (e.2.2.1 : Nat), .int (e.2.2.2 : Nat)]
def rowD (r : List E4) : List D := r.map entD
theorem nums_get {l : List Nat} {i c : Nat} (h : l[i]? = some c) : (nums l)[i]? = some (.int (c : Nat)) := by unfold nums; rw [List.getElem?_map, h]; rfl
/-- four names take four -/
def quadS : D → St → St
  | .tuple [a, b, c, d], σ => setS "octet" (.val d) (setS "width" (.val c) (setS "ahead" (.val b) (setS "which" (.val a) σ)))
  | _, σ => σ
def rdS (ps : List Nat) (e : Nat) (p : Nat) (m : List Nat) (a : Addr) (s : Nat) : St := [("row", .val (.list (rowD (rowFrom 0 ps)))), ("points", .val (.list (nums ps))), ("start", .val (.int (s : Nat))), ("end", .val (.int (e : Nat))), ("made", .own a (sg m)), ("place", .val (.int (p : Nat)))]
set_option maxHeartbeats 2000000 in
theorem reading_ok {ps : List Nat} {s e : Nat} (T : Tp G) (hv : ∀ c ∈ ps, Val c) (he : e ≤ (octs ps).length) (hz : (octs ps).length ≤ 3000) (hpl : ps.length ≤ 3000) {a : Addr} (F : FnAt G (df 6) a) :
    CallD G (n + 1) (.ref a) [.list (rowD (rowFrom 0 ps)), .list (nums ps), .int (s : Nat), .int (e : Nat)] (.str (S (reads ps s e))) := by
  refine CallD.fn4 (x := "row") (y := "points") (z := "start") (w := "end") F (fun env FE => ?_)
  refine Ex.step (Ex1.assignF (EvF.list .nil (by decide)) (FE.loc rfl)) ?_
  rintro _ ⟨a₀, rfl⟩
  refine Ex.one (Ex1.assign (.name rfl) (FE.loc rfl)) ?_
  have htot := reads_length ps (e - s) s e (Nat.le_refl _)
  generalize htt : reads ps s e = total at htot
  refine Ex.whileS (ι := {q : Nat × List Nat × Addr // q.2.1 ++ reads ps q.1 e = total}) (fun q => rdS ps e q.1.1 q.1.2.1 q.1.2.2 s) (fun q => e - q.1.1) (fun q => decide (q.1.1 < e)) ⟨(s, [], a₀), by rw [← htt]; rfl⟩ ⟨rfl, rfl, rfl, rfl, rfl, rfl, trivial⟩ (fun _ => by simp [rdS]; decide) ?_ ?_ ?_
  · rintro ⟨⟨p, m, b⟩, hq⟩
    refine (Tr.cmp (Ev.name rfl).b (Ev.name rfl).b .lt_int).cast ?_
    dsimp only
    rw [Bool.eq_iff_iff]; simp only [decide_eq_true_eq]; exact Int.ofNat_lt
  · rintro ⟨⟨p, m, b⟩, hq⟩ hp
    have hp : p < e := of_decide_eq_true hp
    dsimp only at hq
    obtain ⟨x, hx⟩ : ∃ x, (rowFrom 0 ps)[p]? = some x := ⟨_, List.getElem?_eq_getElem (by rw [row_length]; omega)⟩
    obtain ⟨c, H⟩ := row_get hx
    have hw := H.wide
    have hpos := oct_pos c
    have hwh : ps[x.1]? = some c := by have := H.which; rwa [Nat.sub_zero] at this
    have hc := hv c (List.mem_of_getElem? hwh)
    have hget : ps.getD x.1 0 = c := by rw [List.getD_eq_getElem?_getD, hwh]; rfl
    have hwl : x.1 < ps.length := (List.getElem?_eq_some_iff.mp hwh).1
    rw [reads_step hp hx, hget] at hq
    have hlen : m.length ≤ 3000 := by
      have := congrArg List.length hq
      rw [List.length_append] at this; omega
    have hmz : (sg m).length < sizeLine := by simp [sg]; unfold sizeLine; omega
    have hrow : (rowD (rowFrom 0 ps))[((p : Int)).toNat]? = some (entD x) := by unfold rowD; rw [Int.toNat_natCast, List.getElem?_map, hx]; rfl
    refine Ex.one (Ex1.assignT (f := quadS (entD x)) (Ev.item (.name rfl) (.name rfl) (.list (by dsimp only; omega) (by dsimp only; omega) hrow)) ?_) ?_
    · exact AssL.cons (f := setS "which" (.val (.int (x.1 : Nat)))) (g := fun σ => setS "octet" (.val (.int (x.2.2.2 : Nat))) (setS "width" (.val (.int (x.2.2.1 : Nat))) (setS "ahead" (.val (.int (x.2.1 : Nat))) σ))) (.name (FE.loc rfl))
        (AssL.cons (f := setS "ahead" (.val (.int (x.2.1 : Nat)))) (g := fun σ => setS "octet" (.val (.int (x.2.2.2 : Nat))) (setS "width" (.val (.int (x.2.2.1 : Nat))) σ)) (.name (FE.loc rfl))
          (AssL.cons (f := setS "width" (.val (.int (x.2.2.1 : Nat)))) (g := fun σ => setS "octet" (.val (.int (x.2.2.2 : Nat))) σ) (.name (FE.loc rfl))
            (AssL.cons (f := setS "octet" (.val (.int (x.2.2.2 : Nat)))) (g := id) (.name (FE.loc rfl)) .nil)))
    refine Ex.only (σ₀ := rdS ps e p m b s ++ ([("which", .val (.int (x.1 : Nat))), ("ahead", .val (.int (x.2.1 : Nat))), ("width", .val (.int (x.2.2.1 : Nat)))] : St)) ⟨rfl, rfl, rfl, rfl, rfl, rfl, rfl, rfl, rfl, trivial⟩ ?_ (by simp [rdS]; decide)
    unfold rdS
    by_cases h0 : 0 < x.2.1
    · rw [if_pos h0] at hq
      refine Ex.cons (Ex1.ite (c := true) ((Tr.cmp (Ev.name rfl).b Ev.int.b .gt_int).cast (by simp; omega)) (fun _ => ?_) nofun)
      refine Ex.one (Ex1.append (d := .str (S [65533])) rfl .str hmz) ?_
      refine Ex.one (Ex1.aug (k := (p : Int) + 1) rfl .int (FE.loc rfl) (.inl ⟨rfl, rfl⟩)) (Ex.nil (Ex.nil ⟨⟨(p + 1, m ++ [65533], b), by rw [← hq]; simp⟩, by dsimp only; omega, rfl, rfl, rfl, rfl, ?_, ?_, trivial⟩))
      · show some _ = some _
        simp [sg]
      · show some _ = some _
        simp
    · rw [if_neg h0] at hq
      refine Ex.cons (Ex1.ite (c := false) ((Tr.cmp (Ev.name rfl).b Ev.int.b .gt_int).cast (by simp; omega)) nofun (fun _ => ?_))
      by_cases h1 : p + x.2.2.1 ≤ e
      · rw [if_pos h1] at hq
        refine Ex.cons (Ex1.ite (c := true) ((Tr.cmp (Ev.binop (.name rfl) (.name rfl) .add).b (Ev.name rfl).b .le_int).cast (by simp; omega)) (fun _ => ?_) nofun)
        refine Ex.one (Ex1.append (d := .str (S [c])) rfl ((chr_ev T (FE.kind rfl) (Ev.item (ds := nums ps) (.name rfl) (.name rfl) (.list (by omega) (by omega) (by rw [Int.toNat_natCast]; exact nums_get hwh))) (by omega) (by have := hc.1; omega)).cast (by rw [Int.toNat_natCast])) hmz) ?_
        refine Ex.one (Ex1.aug (k := (p : Int) + (x.2.2.1 : Int)) rfl (.name rfl) (FE.loc rfl) (.inl ⟨rfl, rfl⟩)) (Ex.nil (Ex.nil (Ex.nil ⟨⟨(p + x.2.2.1, m ++ [c], b), by rw [← hq]; simp⟩, by dsimp only; omega, rfl, rfl, rfl, rfl, ?_, ?_, trivial⟩)))
        · show some _ = some _
          simp [sg]
        · show some _ = some _
          simp
      · rw [if_neg h1] at hq
        refine Ex.cons (Ex1.ite (c := false) ((Tr.cmp (Ev.binop (.name rfl) (.name rfl) .add).b (Ev.name rfl).b .le_int).cast (by simp; omega)) nofun (fun _ => ?_))
        refine Ex.one (Ex1.append (d := .str (S [65533])) rfl .str hmz) ?_
        refine Ex.one (Ex1.assign (.name rfl) (FE.loc rfl)) (Ex.nil (Ex.nil (Ex.nil ⟨⟨(e, m ++ [65533], b), by rw [reads_end (by omega), List.append_nil]; exact hq⟩, by dsimp only; omega, rfl, rfl, rfl, rfl, ?_, rfl, trivial⟩)))
        show some _ = some _
        simp [sg]
  · rintro ⟨⟨p, m, b⟩, hq⟩ hp
    have hp : ¬ p < e := of_decide_eq_false hp
    dsimp only at hq
    rw [reads_end hp, List.append_nil] at hq
    subst hq
    refine Ex.cons (Ex1.ret ((Ev.methB (ds := [.list ((m.map fun c => S [c]).map .str)]) Ev.str.b .join (.builtin _) (.cons ((EvB.own rfl).castB (by simp [sg])) .nil) (.join (sg_joinOk (by omega))) rfl).cast (by rw [sg_join])).b rfl)
end
end L01
end Mine
end
section
open PySem PySem.W PyProof.Rows PySem.Calls
set_option maxRecDepth 100000
namespace Mine
namespace L01
open PySem.Challenge
section
variable {G : Gr} {n : Nat} {env : Env} {σ : St}
/-- the numbers with the two more -/
def nb (ns : List Int) : List Int := ns ++ [(ns.length : Int) * 6 + 3, (ns.length : Int)]
def pts (ns : List Int) : List Nat := (nb ns).map pt
theorem pts_val (ns : List Int) : ∀ c ∈ pts ns, Val c := fun c hc => by obtain ⟨k, _, rfl⟩ := List.mem_map.mp hc; exact pt_val k
theorem pts_length (ns : List Int) : (pts ns).length = ns.length + 2 := by simp [pts, nb]
theorem octs_length (ps : List Nat) : (octs ps).length ≤ 4 * ps.length := by
  induction ps with
  | nil => simp [octs]
  | cons c ps ih =>
    have h : octs (c :: ps) = oct c ++ octs ps := rfl
    have := oct_pos c
    rw [h, List.length_append, List.length_cons]; omega
theorem rowFrom_snoc : ∀ (w : Nat) (ps : List Nat) (c : Nat), rowFrom w (ps ++ [c]) = rowFrom w ps ++ ent (w + ps.length) c
  | w, [], c => by simp [rowFrom]
  | w, d :: ps, c => by
    show ent w d ++ rowFrom (w + 1) (ps ++ [c]) = _
    rw [rowFrom_snoc (w + 1) ps c, rowFrom, List.append_assoc, List.length_cons, show w + 1 + ps.length = w + (ps.length + 1) by omega]
theorem nums_length (l : List Nat) : (nums l).length = l.length := by simp [nums]
theorem rowD_length (r : List E4) : (rowD r).length = r.length := by simp [rowD]
def stA (ns : List Int) (ps : List Nat) (r : List E4) (a : Addr) : St := [("numbers", .val (.list ((nb ns).map .int))), ("points", .val (.list (nums ps))), ("row", .own a (rowD r))]
def stB (ns : List Int) (ps : List Nat) (r : List E4) (a : Addr) (w : Nat) (c : Nat) : St := [("numbers", .val (.list ((nb ns).map .int))), ("points", .val (.list (nums ps))), ("row", .own a (rowD r)), ("which", .val (.int (w : Nat))), ("octets", .val (.list (nums (oct c))))]
theorem ent_take {w c j o : Nat} (h : (oct c)[j]? = some o) : (ent w c).take (j + 1) = (ent w c).take j ++ [(w, j, (oct c).length, o)] := by
  have : (ent w c)[j]? = some (w, j, (oct c).length, o) := by
    unfold ent
    rw [List.getElem?_map, List.getElem?_zipIdx, h]; simp
  rw [List.take_add_one, this]; rfl
set_option maxHeartbeats 2000000 in
theorem row_turn {ns : List Int} {ps : List Nat} {r : List E4} {a : Addr} {w c : Nat} (T : Tp G) (FE : FEnv env (df 7).scope) (hc : Val c) (hw : ps[w]? = some c) (hpl : ps.length ≤ 3000) (hr : r.length ≤ 3000) {body : List Stmt} (hbody : body = (match ((df 7).body.drop 4) with | .For _ _ b _ _ :: _ => b | _ => [])) :
    Ex G (n + 1) env [("numbers", .val (.list ((nb ns).map .int))), ("points", .val (.list (nums ps))), ("row", .own a (rowD r)), ("which", .val (.int (w : Nat)))] body fun fl σ₂ => fl = .next ∧ ∃ a, Sub (stA ns ps (r ++ ent w c) a) σ₂ := by
  subst hbody
  obtain ⟨ao, FO⟩ := T.octets
  have hwl : w < ps.length := (List.getElem?_eq_some_iff.mp hw).1
  have hol := oct_pos c
  refine Ex.one (Ex1.assign (.call (fn_ev FO (FE.kind rfl)) FO.callee (.cons (Ev.item (ds := nums ps) (.name rfl) (.name rfl) (.list (by omega) (by omega) (by rw [Int.toNat_natCast]; exact nums_get hw))) .nil) (octets_ok T hc FO)) (FE.loc rfl)) ?_
  have lenp : ∀ {σ : St} {p1 p2 p3 : Pos}, σ.lookup ("octets" : Str) = some (.val (.list (nums (oct c)))) → Ev G (n + 1) env σ (.Call (.Name "len" p1) [.Name "octets" p2] [] p3) (.int (((oct c).length : Nat) : Int)) := fun hl =>
    (Ev.call (.builtin (FE.kind rfl) T.len rfl) (.builtin _) (.cons (.name hl) .nil) (.len_list (by rw [nums_length]; omega))).cast (by rw [nums_length])
  refine Ex.forS (f := fun d => setS "ahead" (.val d)) (ds := nums (List.range (oct c).length)) (fun j a => stB ns ps (r ++ (ent w c).take j) a w c) a ⟨rfl, rfl, ?_, rfl, rfl, trivial⟩ (fun _ _ => by simp [stB]; decide)
    (.of_ev (Ev.call (.builtin (FE.kind rfl) T.range rfl) (.type _) (.cons (lenp rfl) .nil) .range) ?_) (fun d _ => .name (FE.loc rfl)) ?_ ?_
  · show some _ = some _
    simp
  · rw [← rng_nums]
    exact .rng (by decide) (by decide) (by omega) (by omega)
  · intro j d p hd
    unfold nums at hd
    rw [List.getElem?_map] at hd
    obtain ⟨j', hj, rfl⟩ := Option.map_eq_some_iff.mp hd
    have hjl : j < (oct c).length := by have := (List.getElem?_eq_some_iff.mp hj).1; simpa using this
    rw [List.getElem?_range hjl] at hj
    cases hj
    obtain ⟨o, ho⟩ : ∃ o, (oct c)[j]? = some o := ⟨_, List.getElem?_eq_getElem hjl⟩
    refine Ex.one (Ex1.append (d := entD (w, j, (oct c).length, o)) rfl (Ev.tuple (ds := [.int (w : Nat), .int (j : Nat), .int (((oct c).length : Nat) : Int), .int (o : Nat)]) (.cons (.name rfl) (.cons (.name rfl) (.cons (lenp rfl) (.cons (Ev.item (ds := nums (oct c)) (.name rfl) (.name rfl) (.list (by omega) (by omega) (by rw [Int.toNat_natCast]; exact nums_get ho))) .nil)))) (sz (by simp))) ?_) (Ex.nil ⟨p, rfl, rfl, ?_, rfl, rfl, trivial⟩)
    · rw [rowD_length, List.length_append, List.length_take]; unfold sizeLine; omega
    · show some _ = some _
      rw [ent_take ho]; simp [rowD]
  · intro p
    rw [nums_length, List.length_range, List.take_of_length_le (by rw [ent_length]; omega)]
    exact Ex.nil ⟨rfl, p, rfl, rfl, rfl, trivial⟩
def stC (ns : List Int) : St := [("numbers", .val (.list ((nb ns).map .int))), ("points", .val (.list (nums (pts ns)))), ("row", .val (.list (rowD (rowFrom 0 (pts ns))))), ("size", .val (.int ((octs (pts ns)).length : Nat))), ("text", .val (.str (S (pts ns))))]
theorem part3 {σ : St} {e : E4} {p1 p2 p3 : Pos} {kk : Nat} {cenv : Env} (h : σ.lookup ("part" : Str) = some (.val (entD e))) : Ev G n cenv σ (.Subscript (.Name "part" p1) (.Constant (.int 3) kk p2) p3) (.int (e.2.2.2 : Nat)) :=
  Ev.itemT (ds := [.int (e.1 : Nat), .int (e.2.1 : Nat), .int (e.2.2.1 : Nat), .int (e.2.2.2 : Nat)]) (.name h) .int (.tuple (by decide) (by decide) rfl)
def lastD (d : D) : D := match d with
  | .tuple [_, _, _, o] => o
  | _ => .none
theorem row_col (r : List E4) : ((rowD r).filter fun _ => true).map lastD = nums (col r) := by
  rw [List.filter_eq_self.mpr (by simp)]
  unfold rowD nums col
  rw [List.map_map, List.map_map]; rfl
theorem pts_sg (ps : List Nat) : ((nums ps).filter fun _ => true).map (fun d => match d with | .int i => D.str (S [i.toNat]) | _ => .none) = (ps.map fun c => S [c]).map D.str := by
  rw [List.filter_eq_self.mpr (by simp)]
  unfold nums
  rw [List.map_map, List.map_map]; rfl
set_option maxHeartbeats 4000000 in
theorem first_ok {ns : List Int} (T : Tp G) (hn : ns.length ≤ 63) (FE : FEnv env (df 7).scope) (rest : Ex G (n + 1) env (stC ns) ((df 7).body.drop 8) fun fl _ => fl = .ret (.bool true)) :
    Ex G (n + 1) env [("script", .val (.list (ns.map .int)))] (df 7).body fun fl _ => fl = .ret (.bool true) := by
  obtain ⟨ap, FP⟩ := T.point
  obtain ⟨as, FS⟩ := T.stray
  obtain ⟨az, FZ⟩ := T.sanitize
  have hsl : (ns.map D.int).length = ns.length := List.length_map ..
  refine Ex.one (Ex1.assign ((Ev.call (.builtin (FE.kind rfl) T.len rfl) (.builtin _) (.cons (.name rfl) .nil) (.len_list (by rw [hsl]; omega))).cast (d' := .int (ns.length : Nat)) (by rw [hsl])) (FE.loc rfl)) ?_
  refine Ex.one (Ex1.assign (d := .list ((nb ns).map .int)) ((Ev.binop (EvF.listOf (FE.kind rfl) T.list (.name rfl) (.inl rfl) (by rw [hsl]; exact sz (by omega))).ev (Ev.list (ds := [.int ((ns.length : Int) * 6 + 3), .int (ns.length : Nat)]) (.cons (.binop (.binop (.name rfl) .int (.mul (mulOk_right (by decide) (by decide)))) .int .add) (.cons (.name rfl) .nil)) (sz (by simp))) (.add_list (by rw [hsl]; exact sz (by simp; omega)))).cast (by simp [nb])) (FE.loc rfl)) ?_
  have hpl := pts_length ns
  have hnb : ((nb ns).map D.int).length = ns.length + 2 := by simp [nb]
  refine Ex.step (Ex1.assignComp (CompOk.mk' (σc := []) (ds := (nb ns).map .int) (f := fun d => setS "number" (.val d)) (keep := fun _ => true)
    (res := fun d => match d with | .int i => .int (pt i : Nat) | _ => .none) (out := nums (pts ns)) FE trivial (.of_ev (.name rfl) .list) (fun d _ => trivial) (fun cenv CE d hd => ?_) ?_ ?_) (FE.loc rfl) (FE.swaps fun _ => rfl)) ?_
  · obtain ⟨k, hk, rfl⟩ := List.mem_map.mp hd
    exact ⟨.name (CE.loc rfl), .nil, fun _ => .call (fn_ev FP (CE.glob rfl)) FP.callee (.cons (.name rfl) .nil) (point_ok T FP)⟩
  · rw [hnb]; unfold sizeLine; omega
  · rw [List.filter_eq_self.mpr (by simp)]
    unfold pts nums
    rw [List.map_map, List.map_map]; rfl
  rintro _ ⟨a1, rfl⟩
  refine Ex.freeze (x := "points") rfl ?_
  refine Ex.step (Ex1.assignF (EvF.list .nil (by decide)) (FE.loc rfl)) ?_
  rintro _ ⟨a2, rfl⟩
  have hv := pts_val ns
  have hzl := octs_length (pts ns)
  refine Ex.forS (f := fun d => setS "which" (.val d)) (ds := nums (List.range (pts ns).length)) (fun i a => stA ns (pts ns) (rowFrom 0 ((pts ns).take i)) a) a2 ⟨rfl, rfl, rfl, trivial⟩ (fun _ _ => by simp [stA]; decide)
    (.of_ev (Ev.call (.builtin (FE.kind rfl) T.range rfl) (.type _) (.cons ((Ev.call (.builtin (FE.kind rfl) T.len rfl) (.builtin _) (.cons (.name rfl) .nil) (.len_list (by rw [nums_length]; omega))).cast (d' := .int ((pts ns).length : Nat)) (by rw [nums_length])) .nil) .range) ?_) (fun d _ => .name (FE.loc rfl)) ?_ ?_
  · rw [← rng_nums]
    exact .rng (by decide) (by decide) (by omega) (by omega)
  · intro i d p hd
    unfold nums at hd
    rw [List.getElem?_map] at hd
    obtain ⟨i', hi, rfl⟩ := Option.map_eq_some_iff.mp hd
    have hil : i < (pts ns).length := by have := (List.getElem?_eq_some_iff.mp hi).1; simpa using this
    rw [List.getElem?_range hil] at hi
    cases hi
    obtain ⟨c, hc⟩ : ∃ c, (pts ns)[i]? = some c := ⟨_, List.getElem?_eq_getElem hil⟩
    have htk : (pts ns).take (i + 1) = (pts ns).take i ++ [c] := by rw [List.take_add_one, hc]; rfl
    have hrl : (rowFrom 0 ((pts ns).take i)).length ≤ 3000 := by
      rw [row_length]
      have := octs_length ((pts ns).take i)
      rw [List.length_take] at this
      omega
    refine (row_turn T FE (hv c (List.mem_of_getElem? hc)) hc (by omega) hrl rfl).mono fun fl σ' q => ?_
    obtain ⟨rfl, a, q⟩ := q
    refine ⟨a, ?_⟩
    rw [htk, rowFrom_snoc, Nat.zero_add, List.length_take, Nat.min_eq_left (by omega)]
    exact q
  · intro p
    rw [nums_length, List.length_range, List.take_length]
    have hrl := row_length 0 (pts ns)
    refine Ex.one (Ex1.assign ((Ev.callB (.builtin (FE.kind rfl) T.len rfl) (.builtin _) (.cons (.own rfl) .nil) (.len_list (by rw [rowD_length]; omega)) rfl).cast (d' := .int ((octs (pts ns)).length : Nat)) (by rw [rowD_length, hrl])) (FE.loc rfl)) ?_
    refine Ex.freeze (x := "row") rfl ?_
    refine Ex.one (Ex1.assign (d := .str (S (pts ns))) ((Ev.meth (.str (x := S [])) .join (.builtin _) (.cons (EvF.comp (CompOk.mk' (σc := []) (ds := nums (pts ns)) (f := fun d => setS "point" (.val d)) (keep := fun _ => true)
      (res := fun d => match d with | .int i => D.str (S [i.toNat]) | _ => .none) FE trivial (.of_ev (.name rfl) .list) (fun d _ => trivial) (fun cenv CE d hd => ?_) ?_ (pts_sg (pts ns)))).ev .nil) (.join (sg_joinOk (by omega)))).cast (by rw [sg_join])) (FE.loc rfl)) ?_
    · obtain ⟨c, hc, rfl⟩ := List.mem_map.mp hd
      have := (hv c hc).1
      exact ⟨.name (CE.loc rfl), .nil, fun _ => chr_ev T (CE.glob rfl) (.name rfl) (by omega) (by omega)⟩
    · rw [nums_length]; unfold sizeLine; omega
    refine Ex.cons (Ex1.ite (c := false) ((Tr.cmp (Ev.call (fn_ev FZ (FE.kind rfl)) FZ.callee (.cons (.call (fn_ev FS (FE.kind rfl)) FS.callee (.cons (EvF.comp (CompOk.mk' (σc := []) (ds := rowD (rowFrom 0 (pts ns))) (f := fun d => setS "part" (.val d)) (keep := fun _ => true)
      (res := lastD) (out := nums (octs (pts ns))) FE trivial (.of_ev (.name rfl) .list) (fun d _ => trivial) (fun cenv CE d hd => ?_) ?_ ?_)).ev .nil) (stray_ok T (octs_byte hv) (by omega) FS)) .nil) (sanitize_ok (stray_stray (octs_byte hv)) (by simp [stray]; omega) FZ)).b (Ev.name rfl).b .ne_str).cast (by rw [san_whole hv]; simp)) nofun (fun _ => Ex.nil ?_))
    · obtain ⟨e, he, rfl⟩ := List.mem_map.mp hd
      exact ⟨.name (CE.loc rfl), .nil, fun _ => part3 rfl⟩
    · rw [rowD_length, hrl]; unfold sizeLine; omega
    · rw [row_col, col_row]
    refine Ex.only (σ₀ := stC ns) ⟨rfl, rfl, rfl, rfl, rfl, trivial⟩ rest (by simp [stC]; decide)
end
end L01
end Mine
end
section
open PySem PySem.W PyProof.Rows PySem.Calls
set_option maxRecDepth 100000
namespace Mine
section
variable {G : Gr} {n : Nat} {env : Env} {σ : St}
/-- a call of which only something is told -/
def CallE (G : Gr) (n : Nat) (f : Value) (ds : List D) (P : D → Prop) : Prop := ∀ ok A s E vs, Room n A → G.base.StaysIn s.heap → FreshOk ok s.heap → RepAll ok s.heap vs ds →
  wpAny G.M A (call f vs) (fun v s' => Stp G.base s s' ∧ ∃ d, P d ∧ Rep ok s'.heap v d) E s
theorem Ex1.assignCallE {x y : Str} {p q pos cp : Pos} {es : List Expr} {f : Value} {ds : List D} {P : D → Prop} (hf : Ev G n env σ (.Name y q) (.raw f)) (c : Callee G f) (ha : EvL G n env σ es ds) (hc : CallE G n f ds P) (hx : Storable env x)
    (hns : noStar es = true := by rfl) (hplain : (backTo cp (starEach es env)).any (·.1) = false := by rfl) (hs : swapsWith (.Call (.Name y q) es [] cp) (some (.Name x p)) pos.line env = pure false := by rfl) :
    Ex1 G n env σ (.Assign [.Name x p] (.Call (.Name y q) es [] cp) pos) fun fl σ' => fl = .next ∧ ∃ d, P d ∧ σ' = setS x (.val d) σ := fun ok A s E r k i => by
  refine wpAny_Assign_Name (Call_ (wpAny_mono (hf ok A s E r k i) (fun v s₁ p₁ => ?_) fun _ _ x => x)) hs
  obtain ⟨st, rp⟩ := p₁
  cases rp
  refine callWith_callee c hplain (wpAny_mono (ha ok A s₁ E cp r (st.ext.base k) (i.ext st.ext)) (fun vs s₂ p₂ => ⟨p₂.1.ext.base (st.ext.base k), ?_⟩) fun _ _ x => x) hns
  have st' := st.trans p₂.1
  refine wpAny_mono (hc _ A s₂ E vs r (st'.ext.base k) (i.ext st'.ext).freshO p₂.2) (fun v s₃ p₃ => ?_) fun _ _ x => x
  obtain ⟨st₃, d, hP, rv⟩ := p₃
  have st₃' := st'.trans st₃
  have i₁ := i.ext st₃'.ext
  refine wpAny_store (base := G.base) i₁.frame hx fun s₂ hv ho F m => ?_
  have m' : Mv G.base (Wr env σ) s s₂ := (st₃'.mv (W := Wr env σ)).trans (m.weak fun _ w => Or.inl w) fun _ w => .inl w
  exact ⟨.next, _, ⟨rfl, d, hP, rfl⟩, trivial, i₁.set_val m F hv ho rv, m', m'.base k i.off, fun a w => .inl (owned_setS_val w)⟩
theorem Ex1.ofP {st : Stmt} {Q : Fl → St → Prop} (h : ExP1 G n env (fun _ _ => True) σ st Q) : Ex1 G n env σ st Q := fun ok A s E r k i => h ok A s E trivial r k i
end
namespace L01
open PySem.Challenge
section
variable {G : Gr} {n : Nat} {env : Env} {σ : St}
def SortedE (G : Gr) (n : Nat) : Prop := ∀ cs : List Nat, cs.length ≤ 67 → CallE G n (.builtin "sorted") [.list (nums cs)] fun d => ∃ ds, d = .list (nums ds) ∧ (∀ x ∈ ds, x ∈ cs) ∧ ds.length ≤ 67
theorem int_data {k : Nat} {i : Int} : (D.int i).data k = true := by cases k <;> rfl
theorem nums_data (l : List Nat) : (D.list (nums l)).data 1 = true := data_list fun d hd => by
  obtain ⟨c, _, rfl⟩ := List.mem_map.mp hd; exact int_data
def cutOf (ps : List Nat) (x : Nat × Nat) : List Nat := ((octs ps).drop x.1).take (x.2 - x.1)
def pcs (ps : List Nat) (l : List (Nat × Nat)) : List D := l.map fun x => .str (S (stray (cutOf ps x)))
def wts (ps : List Nat) (l : List (Nat × Nat)) : List D := l.map fun x => .str (S (reads ps x.1 x.2))
def stN (ns : List Int) (a : Addr) (cs : List Nat) : St := [("numbers", .val (.list ((nb ns).map .int))), ("points", .val (.list (nums (pts ns)))), ("row", .val (.list (rowD (rowFrom 0 (pts ns))))), ("size", .val (.int ((octs (pts ns)).length : Nat))), ("text", .val (.str (S (pts ns)))), ("cuts", .own a (nums cs))]
def stP (ns : List Int) (l : List (Nat × Nat)) (a b : Addr) : St := [("points", .val (.list (nums (pts ns)))), ("row", .val (.list (rowD (rowFrom 0 (pts ns))))), ("text", .val (.str (S (pts ns)))), ("pieces", .own a (pcs (pts ns) l)), ("wanted", .own b (wts (pts ns) l))]
def stD (ns : List Int) (l : List (Nat × Nat)) : St := [("points", .val (.list (nums (pts ns)))), ("text", .val (.str (S (pts ns)))), ("pieces", .val (.list (pcs (pts ns) l))), ("wanted", .val (.list (wts (pts ns) l)))]
theorem pair_nums : ∀ xs ys : List Nat, pairL (nums xs) (nums ys) = (xs.zip ys).map fun x => D.tuple [.int (x.1 : Nat), .int (x.2 : Nat)]
  | [], _ => rfl
  | _ :: _, [] => rfl
  | x :: xs, y :: ys => by
    show _ :: pairL (nums xs) (nums ys) = _
    rw [pair_nums xs ys]; rfl
theorem pcs_snoc (ps : List Nat) (l : List (Nat × Nat)) (x : Nat × Nat) : pcs ps (l ++ [x]) = pcs ps l ++ [.str (S (stray (cutOf ps x)))] := by simp [pcs]
theorem wts_snoc (ps : List Nat) (l : List (Nat × Nat)) (x : Nat × Nat) : wts ps (l ++ [x]) = wts ps l ++ [.str (S (reads ps x.1 x.2))] := by simp [wts]
theorem col_cut (ps : List Nat) (x : Nat × Nat) : col (((rowFrom 0 ps).drop x.1).take (x.2 - x.1)) = cutOf ps x := by
  unfold col cutOf
  rw [List.map_take, List.map_drop]
  have := col_row 0 ps
  unfold col at this
  rw [this]
set_option maxHeartbeats 2000000 in
theorem piece_turn {ns : List Int} {l : List (Nat × Nat)} {x : Nat × Nat} {a b : Addr} (T : Tp G) (FE : FEnv env (df 7).scope) (hn : ns.length ≤ 63) (hl : l.length ≤ 1000) (hx : x.2 ≤ (octs (pts ns)).length) (hx1 : x.1 ≤ (octs (pts ns)).length) {body : List Stmt} (hbody : body = (match ((df 7).body.drop 13) with | .For _ _ b _ _ :: _ => b | _ => [])) :
    Ex G (n + 1) env [("points", .val (.list (nums (pts ns)))), ("row", .val (.list (rowD (rowFrom 0 (pts ns))))), ("text", .val (.str (S (pts ns)))), ("pieces", .own a (pcs (pts ns) l)), ("wanted", .own b (wts (pts ns) l)), ("start", .val (.int (x.1 : Nat))), ("end", .val (.int (x.2 : Nat)))] body fun fl σ₂ => fl = .next ∧ ∃ a b, Sub (stP ns (l ++ [x]) a b) σ₂ := by
  subst hbody
  obtain ⟨as, FS⟩ := T.stray
  obtain ⟨az, FZ⟩ := T.sanitize
  obtain ⟨ar, FR⟩ := T.reading
  have hv := pts_val ns
  have hpl := pts_length ns
  have hzl := octs_length (pts ns)
  have hrl := row_length 0 (pts ns)
  have hcl : (cutOf (pts ns) x).length ≤ 3000 := by unfold cutOf; rw [List.length_take, List.length_drop]; omega
  have hco : Oct (cutOf (pts ns) x) := octCut (octs_byte hv) _ _
  refine Ex.one (Ex1.assign (.call (fn_ev FS (FE.kind rfl)) FS.callee (.cons (EvF.comp (CompOk.mk' (σc := []) (ds := rowD (((rowFrom 0 (pts ns)).drop x.1).take (x.2 - x.1))) (f := fun d => setS "part" (.val d)) (keep := fun _ => true)
      (res := lastD) (out := nums (cutOf (pts ns) x)) FE trivial (.of_ev ((Ev.item (.name rfl) (.slice (.some (.name rfl)) (.some (.name rfl)) .none) (.slice rfl rfl rfl nofun (by rw [rowD_length, hrl]; exact sz (by omega)))).cast (d' := .list (rowD (((rowFrom 0 (pts ns)).drop x.1).take (x.2 - x.1)))) ?_) .list) (fun d _ => trivial) (fun cenv CE d hd => ?_) ?_ ?_)).ev .nil) (stray_ok T hco hcl FS)) (FE.loc rfl)) ?_
  · show D.list (pickD _ (some (x.1 : Int)) (some (x.2 : Int)) none) = _
    rw [pickD_run]
    unfold rowD
    rw [List.map_take, List.map_drop]
  · obtain ⟨e, he, rfl⟩ := List.mem_map.mp hd
    exact ⟨.name (CE.loc rfl), .nil, fun _ => part3 rfl⟩
  · rw [rowD_length, List.length_take, List.length_drop]; unfold sizeLine; omega
  · rw [row_col, col_cut]
  refine Ex.one (Ex1.assign (.call (fn_ev FR (FE.kind rfl)) FR.callee (.cons (.name rfl) (.cons (.name rfl) (.cons (.name rfl) (.cons (.name rfl) .nil)))) (reading_ok T hv hx (by omega) (by omega) FR)) (FE.loc rfl)) ?_
  refine Ex.cons (Ex1.ite (c := false) ((Tr.cmp (Ev.call (fn_ev FZ (FE.kind rfl)) FZ.callee (.cons (.name rfl) .nil) (sanitize_ok (stray_stray hco) (by simp [stray]; omega) FZ)).b (Ev.name rfl).b .ne_str).cast (by unfold cutOf; rw [san_piece hv hx]; simp)) nofun (fun _ => Ex.nil ?_))
  refine Ex.one (Ex1.append rfl (.name rfl) (by simp [pcs]; unfold sizeLine; omega)) ?_
  refine Ex.one (Ex1.append rfl (.name rfl) (by simp [wts]; unfold sizeLine; omega)) (Ex.nil ⟨rfl, a, b, rfl, rfl, rfl, ?_, ?_, trivial⟩)
  · show some _ = some _
    rw [pcs_snoc]
  · show some _ = some _
    rw [wts_snoc]
set_option maxHeartbeats 4000000 in
theorem cuts_ok {ns : List Int} (T : Tp G) (hso : SortedE G (n + 1)) (hn : ns.length ≤ 63) (FE : FEnv env (df 7).scope) (rest : ∀ l : List (Nat × Nat), l.length ≤ 67 → (∀ x ∈ l, x.2 ≤ (octs (pts ns)).length) → Ex G (n + 1) env (stD ns l) ((df 7).body.drop 14) fun fl _ => fl = .ret (.bool true)) :
    Ex G (n + 1) env (stC ns) ((df 7).body.drop 8) fun fl _ => fl = .ret (.bool true) := by
  have hzl := octs_length (pts ns)
  have hpl := pts_length ns
  have hnb : ((nb ns).map D.int).length = ns.length + 2 := by simp [nb]
  generalize hz : (octs (pts ns)).length = z at *
  refine Ex.step (Ex1.assignF (ds := nums [0, z]) (EvF.list (.cons .int (.cons ((Ev.name rfl).cast (by rw [hz])) .nil)) (by show 2 ≤ sizeLine; decide)) (FE.loc rfl)) ?_
  rintro _ ⟨a0, rfl⟩
  refine Ex.forJ (ι := Addr × List Nat) (f := fun d => setS "number" (.val d)) (ds := (nb ns).map .int) (fun i q => stN ns q.1 q.2) (fun i q => (∀ x ∈ q.2, x ≤ z) ∧ q.2.length ≤ i + 2) (a0, [0, z]) ⟨fun x hx => by simp at hx; omega, Nat.le_refl _⟩ ⟨rfl, rfl, rfl, rfl, rfl, rfl, trivial⟩ (fun _ _ => by simp [stN]; decide)
    (.of_ev (.name rfl) .list) (fun d _ => .name (FE.loc rfl)) ?_ ?_
  · rintro i d ⟨a, cs⟩ hd ⟨h1, h2⟩
    rw [List.getElem?_map] at hd
    obtain ⟨k, hk, rfl⟩ := Option.map_eq_some_iff.mp hd
    have hil : i < (nb ns).length := (List.getElem?_eq_some_iff.mp hk).1
    have hnl : (nb ns).length = ns.length + 2 := by simp [nb]
    dsimp only at h1 h2
    have hf := fm (k := k.fdiv 3) (m := (z : Int) + 1) (by omega)
    refine Ex.one (Ex1.assign (d := .int (((k.fdiv 3).fmod ((z : Int) + 1)).toNat : Nat)) ((Ev.binop (.binop (.name rfl) .int (.fdiv (by decide) (by decide))) (.binop ((Ev.name rfl).cast (d' := .int (z : Nat)) (by rw [hz])) .int .add) (.mod (by omega))).cast (by congr 1; omega)) (FE.loc rfl)) ?_
    generalize hq : ((k.fdiv 3).fmod ((z : Int) + 1)).toNat = q
    have hqz : q ≤ z := by omega
    refine Ex.cons (Ex1.ite (Tr.cmp (Ev.name rfl).b (EvB.own rfl) (.notIn_list (k := 1) (nums_data cs) int_data (by decide))) (fun _ => ?_) (fun _ => ?_))
    · refine Ex.one (Ex1.append rfl (.name rfl) (by rw [nums_length]; unfold sizeLine; dsimp only; omega)) (Ex.nil (Ex.nil ⟨(a, cs ++ [q]), ⟨fun x hx => ?_, by simp; omega⟩, rfl, rfl, rfl, rfl, rfl, ?_, trivial⟩))
      · rcases List.mem_append.mp hx with m | m
        · exact h1 x m
        · rw [List.mem_singleton.mp m]; exact hqz
      · show some _ = some _
        simp [nums]
    · exact Ex.nil (Ex.nil ⟨(a, cs), ⟨h1, by dsimp only; omega⟩, rfl, rfl, rfl, rfl, rfl, rfl, trivial⟩)
  · rintro ⟨a, cs⟩ ⟨h1, h2⟩
    dsimp only at h1 h2
    rw [hnb] at h2
    refine Ex.freeze (x := "cuts") rfl ?_
    refine Ex.step (Ex1.assignCallE (.builtin (FE.kind rfl) T.sorted rfl) (.builtin _) (.cons (.name rfl) .nil) (hso cs (by omega)) (FE.loc rfl)) ?_
    rintro _ ⟨_, ⟨ds, rfl, hm, hdl⟩, rfl⟩
    have hds : ∀ x ∈ ds, x ≤ z := fun x hx => h1 x (hm x hx)
    refine Ex.step (Ex1.assignF (EvF.list .nil (by decide)) (FE.loc rfl)) ?_
    rintro _ ⟨a1, rfl⟩
    refine Ex.step (Ex1.assignF (EvF.list .nil (by decide)) (FE.loc rfl)) ?_
    rintro _ ⟨a2, rfl⟩
    have hpr : ∀ x ∈ ds.zip (ds.drop 1), x.1 ≤ z ∧ x.2 ≤ z := fun x hx => ⟨hds _ (List.of_mem_zip hx).1, hds _ (List.mem_of_mem_drop (List.of_mem_zip hx).2)⟩
    have hprl : (ds.zip (ds.drop 1)).length ≤ 67 := by rw [List.length_zip]; omega
    refine Ex.step (P := fun σ' => ∃ a b, Sub (stP ns (ds.zip (ds.drop 1)) a b) σ') (Ex1.ofP (ExP1.forX (f := pairS "start" "end") (ds := pairL (nums ds) (nums (ds.drop 1))) rdT (EvIX.zip (FE.kind rfl) T.zip (.name rfl) ((Ev.item (.name rfl) (.slice (.some .int) .none .none) (.slice rfl rfl rfl nofun (by rw [nums_length]; exact sz (by omega)))).cast ?_)) ?_
      (fun i σ' => ∃ a b, Sub (stP ns ((ds.zip (ds.drop 1)).take i) a b) σ') ⟨a1, a2, rfl, rfl, rfl, rfl, rfl, trivial⟩ ?_ ?_)) ?_
    · show D.list (pickD _ (some (1 : Nat) : Option Int) none none) = _
      rw [pickD_from]; simp [nums, List.map_drop]
    · intro d hd
      rw [pair_nums] at hd
      obtain ⟨x, _, rfl⟩ := List.mem_map.mp hd
      exact AssD.pair (FE.loc rfl) (FE.loc rfl)
    · rintro i d σ₁ hd ⟨a, b, hsub⟩
      rw [pair_nums, List.getElem?_map] at hd
      obtain ⟨x, hx, rfl⟩ := Option.map_eq_some_iff.mp hd
      have hxm := hpr x (List.mem_of_getElem? hx)
      have htk : (ds.zip (ds.drop 1)).take (i + 1) = (ds.zip (ds.drop 1)).take i ++ [x] := by rw [List.take_add_one, hx]; rfl
      have hsub' := Sub.set (x := "end") (s := .val (.int (x.2 : Nat))) (Sub.set (x := "start") (s := .val (.int (x.1 : Nat))) hsub (by simp [stP]; decide)) (by simp [stP]; decide)
      refine ExP.of (Ex.only (σ₀ := [("points", .val (.list (nums (pts ns)))), ("row", .val (.list (rowD (rowFrom 0 (pts ns))))), ("text", .val (.str (S (pts ns)))), ("pieces", .own a (pcs (pts ns) ((ds.zip (ds.drop 1)).take i))), ("wanted", .own b (wts (pts ns) ((ds.zip (ds.drop 1)).take i))), ("start", .val (.int (x.1 : Nat))), ("end", .val (.int (x.2 : Nat)))])
        ⟨hsub'.1, hsub'.2.1, hsub'.2.2.1, hsub'.2.2.2.1, hsub'.2.2.2.2.1, ?_, lookup_setS_self _, trivial⟩ ?_)
      · show List.lookup _ (setS "end" _ (setS "start" _ σ₁)) = _
        rw [lookup_setS_ne (by decide), lookup_setS_self]
      · refine (piece_turn T FE hn (by rw [List.length_take]; omega) (by rw [hz]; exact hxm.2) (by rw [hz]; exact hxm.1) rfl).mono fun fl σ' q => ?_
        obtain ⟨rfl, q⟩ := q
        rw [htk]
        exact q
    · rintro σ₁ ⟨a, b, hsub⟩
      rw [pair_nums, List.length_map, List.take_length] at hsub
      exact ⟨rfl, a, b, hsub⟩
    · rintro σ₁ ⟨a, b, hsub⟩
      refine Ex.only hsub ?_ (by simp [stP]; decide)
      refine Ex.freeze (x := "pieces") rfl ?_
      refine Ex.freeze (x := "wanted") rfl ?_
      exact Ex.only (σ₀ := stD ns (ds.zip (ds.drop 1))) ⟨rfl, rfl, rfl, rfl, trivial⟩ (rest _ hprl fun x hx => (hpr x hx).2) (by simp [stD]; decide)
end
end L01
end Mine
end
section
open PySem PySem.W PyProof.Rows PySem.Calls
set_option maxRecDepth 100000
namespace Mine
namespace L01
open PySem.Challenge
theorem join_W (b : List Nat) : ∀ ls : List (List Nat), Txt.join (S b) (ls.map S) = S (joinW b ls) := by
  intro ls
  unfold Txt.join
  rw [StrLaws.glued_eq_join]
  induction ls with
  | nil => rfl
  | cons l r ih =>
    cases r with
    | nil => rfl
    | cons m t =>
      show S l ++ S b ++ Str.join (S b) ((m :: t).map S) = _
      rw [ih, S_app, S_app, List.append_assoc]; rfl
theorem sum_le {ls : List (List Nat)} {m : Nat} (h : ∀ l ∈ ls, l.length ≤ m) : ((ls.map S).map (·.length)).sum ≤ ls.length * m := by
  induction ls with
  | nil => simp
  | cons l r ih =>
    have h1 := ih fun x hx => h x (.tail _ hx)
    have h2 := h l (.head _)
    rw [List.map_cons, List.map_cons, List.sum_cons, S_length, List.length_cons, Nat.succ_mul]; omega
theorem joinOk_W {b : List Nat} {ls : List (List Nat)} {m : Nat} (h : ∀ l ∈ ls, l.length ≤ m) (hz : ls.length * m + ls.length * b.length ≤ 16000000) : JoinOk (S b) (ls.map S) = true := by
  unfold JoinOk
  rw [StrLaws.joinTotal]
  have := sum_le h
  show (!decide (((ls.map S).map (·.length)).sum + (ls.map S).length * (S b).length > sizeLine)) = true
  rw [S_length, List.length_map]
  have hs : (16000000 : Nat) ≤ sizeLine := by decide
  rw [Bool.not_eq_true', decide_eq_false_iff_not]; omega
theorem joinW_len {b : List Nat} {m : Nat} : ∀ {ls : List (List Nat)}, (∀ l ∈ ls, l.length ≤ m) → (joinW b ls).length ≤ ls.length * m + ls.length * b.length
  | [], _ => by simp [joinW]
  | [l], h => by
    have := h l (.head _)
    show l.length ≤ _
    simp; omega
  | l :: l' :: r, h => by
    have h1 := joinW_len (b := b) fun x hx => h x (.tail _ hx)
    have h2 := h l (.head _)
    show (l ++ (b ++ joinW b (l' :: r))).length ≤ _
    rw [List.length_append, List.length_append]
    rw [List.length_cons, Nat.succ_mul, Nat.succ_mul (l' :: r).length b.length]
    omega
section
variable {G : Gr} {n : Nat} {env : Env} {σ : St}
def pcL (ps : List Nat) (l : List (Nat × Nat)) : List (List Nat) := l.map fun x => stray (cutOf ps x)
def wtL (ps : List Nat) (l : List (Nat × Nat)) : List (List Nat) := l.map fun x => reads ps x.1 x.2
theorem pcs_eq (ps : List Nat) (l : List (Nat × Nat)) : pcs ps l = ((pcL ps l).map S).map .str := by unfold pcs pcL; rw [List.map_map, List.map_map]; rfl
theorem wts_eq (ps : List Nat) (l : List (Nat × Nat)) : wts ps l = ((wtL ps l).map S).map .str := by unfold wts wtL; rw [List.map_map, List.map_map]; rfl
set_option maxHeartbeats 2000000 in
theorem between_turn {ns : List Int} {l : List (Nat × Nat)} {b : Nat} (T : Tp G) (FE : FEnv env (df 7).scope) (hn : ns.length ≤ 63) (hl : l.length ≤ 67) (hx : ∀ x ∈ l, x.2 ≤ (octs (pts ns)).length) (hb : Val b) {body : List Stmt} (hbody : body = (match ((df 7).body.drop 14) with | .For _ _ b _ _ :: _ => b | _ => [])) :
    Ex G (n + 1) env (setS "between" (.val (.str (S [b]))) (stD ns l)) body fun fl σ₂ => fl = .next ∧ Sub (stD ns l) σ₂ := by
  subst hbody
  obtain ⟨az, FZ⟩ := T.sanitize
  have hv := pts_val ns
  have hpl := pts_length ns
  have hzl := octs_length (pts ns)
  have hp1 : ∀ q ∈ pcL (pts ns) l, q.length ≤ 300 := fun q hq => by
    obtain ⟨x, hx, rfl⟩ := List.mem_map.mp hq
    unfold cutOf stray
    rw [List.length_map, List.length_take, List.length_drop]; omega
  have hp2 : ∀ q ∈ wtL (pts ns) l, q.length ≤ 300 := fun q hq => by
    obtain ⟨x, hx', rfl⟩ := List.mem_map.mp hq
    have := reads_length (pts ns) (x.2 - x.1) x.1 x.2 (Nat.le_refl _)
    have := hx x hx'
    omega
  have hl1 : (pcL (pts ns) l).length = l.length := by simp [pcL]
  have hl2 : (wtL (pts ns) l).length = l.length := by simp [wtL]
  obtain ⟨e1, e2⟩ := san_join hv hb l hx
  have e3 : joinW [b] ((l.map fun x => ((octs (pts ns)).drop x.1).take (x.2 - x.1)).map stray) = joinW [b] (pcL (pts ns) l) := by unfold pcL cutOf; rw [List.map_map]; rfl
  rw [e3] at e1 e2
  have hjl := joinW_len (b := [b]) hp1
  rw [hl1, List.length_singleton] at hjl
  refine Ex.cons (Ex1.ite (c := false) ((Tr.cmp (da := .str (S (san (joinW [b] (pcL (pts ns) l))))) (db := .str (S (joinW [b] (wtL (pts ns) l)))) (Ev.call (fn_ev FZ (FE.kind rfl)) FZ.callee (.cons ((Ev.meth (dv := .str (S [b])) (ds := [.list (((pcL (pts ns) l).map S).map .str)]) (.name rfl) .join (.builtin _) (.cons ((Ev.name rfl).cast (by rw [pcs_eq])) .nil) (.join (joinOk_W hp1 (by rw [hl1]; simp; omega)))).cast (by rw [join_W])) .nil) (sanitize_ok e2 (by omega) FZ)).b
    ((Ev.meth (dv := .str (S [b])) (ds := [.list (((wtL (pts ns) l).map S).map .str)]) (.name rfl) .join (.builtin _) (.cons ((Ev.name rfl).cast (by rw [wts_eq])) .nil) (.join (joinOk_W hp2 (by rw [hl2]; simp; omega)))).cast (by rw [join_W])).b .ne_str).cast ?_) nofun (fun _ => Ex.nil (Ex.nil ⟨rfl, rfl, rfl, rfl, rfl, trivial⟩)))
  rw [e1]
  simp [wtL]
def rows (ls : List (List Nat)) : List D := ls.map fun l => .str (S l)
theorem rows_eq (ls : List (List Nat)) : rows ls = (ls.map S).map .str := by unfold rows; rw [List.map_map]; rfl
def stT (ns : List Int) (l m : List (List Nat)) (a b : Addr) : St := [("points", .val (.list (nums (pts ns)))), ("text", .val (.str (S (pts ns)))), ("turned", .own a (rows l)), ("marked", .own b (rows m))]
def stE (ns : List Int) : St := [("points", .val (.list (nums (pts ns)))), ("text", .val (.str (S (pts ns))))]
set_option maxHeartbeats 2000000 in
theorem turned_turn {ns : List Int} {c i : Nat} {a b : Addr} (T : Tp G) (FE : FEnv env (df 7).scope) (hn : ns.length ≤ 63) (hc : Val c) (hi : (pts ns)[i]? = some c) {body : List Stmt} (hbody : body = (match ((df 7).body.drop 17) with | .For _ _ b _ _ :: _ => b | _ => [])) :
    Ex G (n + 1) env [("points", .val (.list (nums (pts ns)))), ("text", .val (.str (S (pts ns)))), ("turned", .own a (rows (((pts ns).take i).map turnS))), ("marked", .own b (rows (((pts ns).take i).map markS))), ("point", .val (.int (c : Nat)))] body fun fl σ₂ => fl = .next ∧ ∃ a b, Sub (stT ns (((pts ns).take (i + 1)).map turnS) (((pts ns).take (i + 1)).map markS) a b) σ₂ := by
  subst hbody
  obtain ⟨ao, FO⟩ := T.octets
  obtain ⟨as, FS⟩ := T.stray
  have hpl := pts_length ns
  have hil : i < (pts ns).length := (List.getElem?_eq_some_iff.mp hi).1
  have hop := oct_pos c
  have htk : (pts ns).take (i + 1) = (pts ns).take i ++ [c] := by rw [List.take_add_one, hi]; rfl
  have hrl : ∀ f : Nat → List Nat, (rows (((pts ns).take i).map f)).length < sizeLine := fun f => by simp [rows]; unfold sizeLine; omega
  have hrev : (oct c).reverse.length ≤ 3000 := by rw [List.length_reverse]; omega
  have hsl : (stray (oct c).reverse).length = (oct c).length := by simp [stray]
  rw [htk]
  refine Ex.one (Ex1.assign (.call (fn_ev FO (FE.kind rfl)) FO.callee (.cons (.name rfl) .nil) (octets_ok T hc FO)) (FE.loc rfl)) ?_
  refine Ex.one (Ex1.append (d := .str (S (turnS c))) rfl ((Ev.binop (.call (fn_ev FS (FE.kind rfl)) FS.callee (.cons ((Ev.item (ds := nums (oct c)) (.name rfl) (.slice .none .none (.some (.neg .int))) (.slice rfl rfl rfl (by decide) (by rw [nums_length]; exact sz (by omega)))).cast (d' := .list (nums (oct c).reverse)) ?_) .nil) (stray_ok T (rev_byte hc) hrev FS)) (.str (x := S [45])) (.add_str (sz (by rw [S_length, S_length, hsl]; simp; omega)))).cast (by rw [S_app]; rfl)) (hrl _)) ?_
  · show D.list (pickD _ none none (some (-1))) = _
    rw [pickD_rev, nums, ← List.map_reverse]; rfl
  have lenp : ∀ {σ : St} {p1 p2 p3 : Pos}, σ.lookup ("octets" : Str) = some (.val (.list (nums (oct c)))) → Ev G (n + 1) env σ (.Call (.Name "len" p1) [.Name "octets" p2] [] p3) (.int (((oct c).length : Nat) : Int)) := fun hl =>
    (Ev.call (.builtin (FE.kind rfl) T.len rfl) (.builtin _) (.cons (.name hl) .nil) (.len_list (by rw [nums_length]; omega))).cast (by rw [nums_length])
  by_cases h1 : (oct c).length = 1
  · refine Ex.cons (Ex1.ite (c := true) ((Tr.cmp (lenp rfl).b Ev.int.b .eq_int).cast (by rw [h1]; rfl)) (fun _ => ?_) nofun)
    refine Ex.one (Ex1.append (d := .str (S (markS c))) rfl ((Ev.binop ((chr_ev T (FE.kind rfl) (.name rfl) (by omega) (by have := hc.1; omega)).cast (d' := .str (S [c])) (by rw [Int.toNat_natCast])) (.str (x := S [45])) (.add_str (sz (by rw [S_length, S_length]; simp)))).cast (by rw [S_app, markS, if_pos h1])) (hrl _)) (Ex.nil (Ex.nil ⟨rfl, a, b, rfl, rfl, ?_, ?_, trivial⟩))
    · show some _ = some _
      simp [rows]
    · show some _ = some _
      simp [rows]
  · refine Ex.cons (Ex1.ite (c := false) ((Tr.cmp (lenp rfl).b Ev.int.b .eq_int).cast (by simp; omega)) nofun (fun _ => ?_))
    refine Ex.one (Ex1.append (d := .str (S (markS c))) rfl ((Ev.binop ((Ev.binop (.str (x := S [65533])) (lenp rfl) (.mul_str (by omega) (by omega) (by simp))).cast (d' := .str (S (List.replicate (oct c).length 65533))) ?_) (.str (x := S [45])) (.add_str (sz (by rw [S_length, S_length]; simp; omega)))).cast (by rw [S_app, markS, if_neg h1])) (hrl _)) (Ex.nil (Ex.nil ⟨rfl, a, b, rfl, rfl, ?_, ?_, trivial⟩))
    · rw [Int.toNat_natCast]
      congr 2
      generalize (oct c).length = k
      induction k with
      | zero => rfl
      | succ k ih => rw [List.replicate_succ, List.replicate_succ, List.flatten_cons, ih]; rfl
    · show some _ = some _
      simp [rows]
    · show some _ = some _
      simp [rows]
end
end L01
end Mine
end
section
open PySem PySem.W PyProof.Rows PySem.Calls
set_option maxRecDepth 100000
namespace Mine
namespace L01
open PySem.Challenge
section
variable {G : Gr} {n : Nat} {env : Env} {σ : St}
theorem flat_len {ls : List (List Nat)} {m : Nat} (h : ∀ l ∈ ls, l.length ≤ m) : ls.flatten.length ≤ ls.length * m := flatten_le h
theorem turnS_len (c : Nat) : (turnS c).length ≤ 5 := by have := oct_pos c; simp [turnS, stray]; omega
theorem markS_len (c : Nat) : (markS c).length ≤ 5 := by
  have := oct_pos c
  unfold markS
  rw [List.length_append]
  split
  · simp
  · rw [List.length_replicate]; simp; omega
theorem mixS_len (b : Bool) (c : Nat) : (mixS b c).length ≤ 4 := by
  have := oct_pos c
  cases b with
  | true => simp [mixS, stray]; omega
  | false => simp [mixS]
def mixL (ps : List Nat) (o : Nat) (js : List Nat) : List (List Nat) := js.map fun j => mixS (decide (j % 2 = o)) (ps.getD j 0)
def stM (ns : List Int) (o : Nat) (l : List (List Nat)) (a : Addr) : St := [("points", .val (.list (nums (pts ns)))), ("text", .val (.str (S (pts ns)))), ("odd", .val (.int (o : Nat))), ("mixed", .own a (rows l))]
set_option maxHeartbeats 2000000 in
theorem mixed_turn {ns : List Int} {o : Nat} (T : Tp G) (FE : FEnv env (df 7).scope) (hn : ns.length ≤ 63) {body : List Stmt} (hbody : body = (match ((df 7).body.drop 19) with | .For _ _ b _ _ :: _ => b | _ => [])) :
    Ex G (n + 1) env (setS "odd" (.val (.int (o : Nat))) (stE ns)) body fun fl σ₂ => fl = .next ∧ Sub (stE ns) σ₂ := by
  subst hbody
  obtain ⟨ao, FO⟩ := T.octets
  obtain ⟨as, FS⟩ := T.stray
  obtain ⟨az, FZ⟩ := T.sanitize
  have hv := pts_val ns
  have hpl := pts_length ns
  refine Ex.step (Ex1.assignF (EvF.list .nil (by decide)) (FE.loc rfl)) ?_
  rintro _ ⟨a0, rfl⟩
  refine Ex.forS (f := fun d => setS "which" (.val d)) (ds := nums (List.range (pts ns).length)) (fun i a => stM ns o (mixL (pts ns) o (List.range i)) a) a0 ⟨rfl, rfl, rfl, rfl, trivial⟩ (fun _ _ => by simp [stM]; decide)
    (.of_ev (Ev.call (.builtin (FE.kind rfl) T.range rfl) (.type _) (.cons ((Ev.call (.builtin (FE.kind rfl) T.len rfl) (.builtin _) (.cons (.name rfl) .nil) (.len_list (by rw [nums_length]; omega))).cast (d' := .int ((pts ns).length : Nat)) (by rw [nums_length])) .nil) .range) ?_) (fun d _ => .name (FE.loc rfl)) ?_ ?_
  · rw [← rng_nums]
    exact .rng (by decide) (by decide) (by omega) (by omega)
  · intro i d p hd
    unfold nums at hd
    rw [List.getElem?_map] at hd
    obtain ⟨i', hi, rfl⟩ := Option.map_eq_some_iff.mp hd
    have hil : i < (pts ns).length := by have := (List.getElem?_eq_some_iff.mp hi).1; simpa using this
    rw [List.getElem?_range hil] at hi
    cases hi
    obtain ⟨c, hc⟩ : ∃ c, (pts ns)[i]? = some c := ⟨_, List.getElem?_eq_getElem hil⟩
    have hcv := hv c (List.mem_of_getElem? hc)
    have hget : (pts ns).getD i 0 = c := by rw [List.getD_eq_getElem?_getD, hc]; rfl
    have hsn : mixL (pts ns) o (List.range (i + 1)) = mixL (pts ns) o (List.range i) ++ [mixS (decide (i % 2 = o)) c] := by
      unfold mixL; rw [List.range_succ, List.map_append, ← hget]; rfl
    have hz : (rows (mixL (pts ns) o (List.range i))).length < sizeLine := by simp [rows, mixL]; unfold sizeLine; omega
    have item : ∀ {σ : St} {p1 p2 p3 : Pos}, σ.lookup ("points" : Str) = some (.val (.list (nums (pts ns)))) → σ.lookup ("which" : Str) = some (.val (.int (i : Nat))) → Ev G (n + 1) env σ (.Subscript (.Name "points" p1) (.Name "which" p2) p3) (.int (c : Nat)) := fun h1 h2 =>
      Ev.item (.name h1) (.name h2) (.list (by omega) (by omega) (by rw [Int.toNat_natCast]; exact nums_get hc))
    rw [hsn]
    refine Ex.cons (Ex1.ite (c := decide (i % 2 = o)) ((Tr.cmp (Ev.binop (.name rfl) .int (.mod (by decide))).b (Ev.name rfl).b .eq_int).cast ?_) (fun h => ?_) (fun h => ?_))
    · show (((i : Int).fmod ((2 : Nat) : Int)) == (o : Int)) = _
      rw [nfmod, Bool.eq_iff_iff]; simp; omega
    · refine Ex.one (Ex1.append (d := .str (S (stray (oct c)))) rfl (.call (fn_ev FS (FE.kind rfl)) FS.callee (.cons (.call (fn_ev FO (FE.kind rfl)) FO.callee (.cons (item rfl rfl) .nil) (octets_ok T hcv FO)) .nil) (stray_ok T (oct_byte hcv) (by have := oct_pos c; omega) FS)) hz) (Ex.nil (Ex.nil ⟨p, rfl, rfl, rfl, ?_, trivial⟩))
      show some _ = some _
      rw [h]; simp [rows, mixS]
    · refine Ex.one (Ex1.append (d := .str (S [c])) rfl ((chr_ev T (FE.kind rfl) (item rfl rfl) (by omega) (by have := hcv.1; omega)).cast (by rw [Int.toNat_natCast])) hz) (Ex.nil (Ex.nil ⟨p, rfl, rfl, rfl, ?_, trivial⟩))
      show some _ = some _
      rw [h]; simp [rows, mixS]
  · intro p
    rw [nums_length, List.length_range]
    obtain ⟨e1, e2⟩ := san_mixed hv (fun j => decide (j % 2 = o))
    have hfl : (mixL (pts ns) o (List.range (pts ns).length)).flatten.length ≤ 3000 := by
      have := flat_len (ls := mixL (pts ns) o (List.range (pts ns).length)) (m := 4) fun l hl => by
        obtain ⟨j, _, rfl⟩ := List.mem_map.mp hl; exact mixS_len _ _
      have h2 : (mixL (pts ns) o (List.range (pts ns).length)).length = (pts ns).length := by simp [mixL]
      omega
    refine Ex.cons (Ex1.ite (c := false) ((Tr.cmp (Ev.call (fn_ev FZ (FE.kind rfl)) FZ.callee (.cons ((Ev.methB (ds := [.list (((mixL (pts ns) o (List.range (pts ns).length)).map S).map .str)]) Ev.str.b .join (.builtin _) (.cons ((EvB.own rfl).castB (by rw [rows_eq])) .nil) (.join (joinOk_none (sz (by omega)))) rfl).cast (by rw [join_none]; rfl)) .nil) (sanitize_ok e2 (by show (mixL (pts ns) o (List.range (pts ns).length)).flatten.length ≤ _; omega) FZ)).b (Ev.name rfl).b .ne_str).cast (by rw [e1]; simp)) nofun (fun _ => Ex.nil (Ex.nil ⟨rfl, rfl, rfl, trivial⟩)))
set_option maxHeartbeats 4000000 in
theorem last_ok {ns : List Int} {l : List (Nat × Nat)} (T : Tp G) (FE : FEnv env (df 7).scope) (hn : ns.length ≤ 63) (hl : l.length ≤ 67) (hx : ∀ x ∈ l, x.2 ≤ (octs (pts ns)).length) : Ex G (n + 1) env (stD ns l) ((df 7).body.drop 14) fun fl _ => fl = .ret (.bool true) := by
  obtain ⟨az, FZ⟩ := T.sanitize
  have hv := pts_val ns
  have hpl := pts_length ns
  obtain ⟨b2, hb2⟩ : ∃ c, (pts ns)[ns.length]? = some c := ⟨_, List.getElem?_eq_getElem (by omega)⟩
  have hb2v := hv b2 (List.mem_of_getElem? hb2)
  refine Ex.forS (ι := Unit) (f := fun d => setS "between" (.val d)) (ds := [.str (S [124]), .str (S [b2])]) (fun _ _ => stD ns l) () ⟨rfl, rfl, rfl, rfl, trivial⟩ (fun _ _ => by simp [stD]; decide)
    (.of_ev (Ev.list (.cons .str (.cons ((chr_ev T (FE.kind rfl) (Ev.item (ds := nums (pts ns)) (d := .int (b2 : Nat)) (.name rfl) (.neg .int) (.list_neg (by decide) (by rw [nums_length]; omega) (by decide) ?_)) (by omega) (by have := hb2v.1; omega)).cast (by rw [Int.toNat_natCast])) .nil)) (sz (by simp))) .list) (fun d _ => .name (FE.loc rfl)) ?_ ?_
  · rw [nums_length, show ((-2 : Int) + ((pts ns).length : Int)).toNat = ns.length by omega]
    exact nums_get hb2
  · intro i d _ hd
    match i, hd with
    | 0, hd =>
      cases hd
      refine (between_turn T FE hn hl hx (b := 124) ⟨by decide, by decide⟩ rfl).mono fun fl σ' q => ?_
      obtain ⟨rfl, q⟩ := q
      exact ⟨(), q⟩
    | 1, hd =>
      cases hd
      refine (between_turn T FE hn hl hx hb2v rfl).mono fun fl σ' q => ?_
      obtain ⟨rfl, q⟩ := q
      exact ⟨(), q⟩
    | i + 2, hd => cases hd
  intro _
  refine Ex.step (Ex1.assignF (EvF.list .nil (by decide)) (FE.loc rfl)) ?_
  rintro _ ⟨a1, rfl⟩
  refine Ex.step (Ex1.assignF (EvF.list .nil (by decide)) (FE.loc rfl)) ?_
  rintro _ ⟨a2, rfl⟩
  refine Ex.forS (ι := Addr × Addr) (f := fun d => setS "point" (.val d)) (ds := nums (pts ns)) (fun i q => stT ns (((pts ns).take i).map turnS) (((pts ns).take i).map markS) q.1 q.2) (a1, a2) ⟨rfl, rfl, rfl, rfl, trivial⟩ (fun _ _ => by simp [stT]; decide) (.of_ev (.name rfl) .list) (fun d _ => .name (FE.loc rfl)) ?_ ?_
  · rintro i d ⟨a, b⟩ hd
    unfold nums at hd
    rw [List.getElem?_map] at hd
    obtain ⟨c, hc, rfl⟩ := Option.map_eq_some_iff.mp hd
    refine (turned_turn T FE hn (hv c (List.mem_of_getElem? hc)) hc rfl).mono fun fl σ' q => ?_
    obtain ⟨rfl, a, b, q⟩ := q
    exact ⟨(a, b), q⟩
  rintro ⟨a, b⟩
  rw [nums_length, List.take_length]
  obtain ⟨_, _, e3, _⟩ := san_turn hv
  have ht := flat_len (ls := (pts ns).map turnS) (m := 5) fun l hl => by obtain ⟨j, _, rfl⟩ := List.mem_map.mp hl; exact turnS_len _
  have hm := flat_len (ls := (pts ns).map markS) (m := 5) fun l hl => by obtain ⟨j, _, rfl⟩ := List.mem_map.mp hl; exact markS_len _
  rw [List.length_map] at ht hm
  refine Ex.cons (Ex1.ite (c := false) ((Tr.cmp (da := .str (S (san ((pts ns).map turnS).flatten))) (db := .str (S ((pts ns).map markS).flatten)) (Ev.call (fn_ev FZ (FE.kind rfl)) FZ.callee (.cons ((Ev.methB (ds := [.list ((((pts ns).map turnS).map S).map .str)]) Ev.str.b .join (.builtin _) (.cons ((EvB.own rfl).castB (by rw [rows_eq])) .nil) (.join (joinOk_none (sz (by omega)))) rfl).cast (by rw [join_none])) .nil) (sanitize_ok e3 (by omega) FZ)).b
    ((Ev.methB (ds := [.list ((((pts ns).map markS).map S).map .str)]) Ev.str.b .join (.builtin _) (.cons ((EvB.own rfl).castB (by rw [rows_eq])) .nil) (.join (joinOk_none (sz (by omega)))) rfl).cast (by rw [join_none])).b .ne_str).cast (by rw [san_turned hv]; simp)) nofun (fun _ => Ex.nil ?_))
  refine Ex.forS (ι := Unit) (f := fun d => setS "odd" (.val d)) (ds := [.int ((0 : Nat) : Int), .int ((1 : Nat) : Int)]) (fun _ _ => stE ns) () ⟨rfl, rfl, trivial⟩ (fun _ _ => by simp [stE]; decide)
    (.of_ev (Ev.list (.cons .int (.cons .int .nil)) (by decide)) .list) (fun d _ => .name (FE.loc rfl)) ?_ ?_
  · intro i d _ hd
    match i, hd with
    | 0, hd =>
      cases hd
      refine (mixed_turn T FE hn (o := 0) rfl).mono fun fl σ' q => ?_
      obtain ⟨rfl, q⟩ := q
      exact ⟨(), q⟩
    | 1, hd =>
      cases hd
      refine (mixed_turn T FE hn (o := 1) rfl).mono fun fl σ' q => ?_
      obtain ⟨rfl, q⟩ := q
      exact ⟨(), q⟩
    | i + 2, hd => cases hd
  intro _
  exact Ex.cons (Ex1.ret Ev.bool.b rfl)
theorem law_call {ns : List Int} (T : Tp G) (hso : SortedE G (n + 1)) (hn : ns.length ≤ 63) {a : Addr} (F : FnAt G (df 7) a) : CallD G (n + 2) (.ref a) [.list (ns.map .int)] (.bool true) :=
  CallD.fn1 (x := "script") F fun env FE => first_ok T hn FE (cuts_ok T hso hn FE fun l hl hx => last_ok T FE hn hl hx)
end
end L01
end Mine
end
section
open PySem PySem.W PyProof.Rows PySem.Calls
set_option maxRecDepth 100000
namespace Mine
namespace Srt
def gallop' : Bool → Keyed → Array Keyed → Nat → Nat → Nat → StateT SortSt Sem (Option Nat) := sortPriv% PySem.Builtin.gallop
def setMinGallop' : Nat → StateT SortSt Sem Unit := sortPriv% PySem.Builtin.setMinGallop
def mergeLo' : Array Keyed → Array Keyed → StateT SortSt Sem (Array Keyed) := sortPriv% PySem.Builtin.mergeLo
def mergeHi' : Array Keyed → Array Keyed → StateT SortSt Sem (Array Keyed) := sortPriv% PySem.Builtin.mergeHi
def beyond' (left : Bool) (key : Keyed) (arr : Array Keyed) (base i : Nat) : StateT SortSt Sem (Option Bool) := do
  let x ← elem' arr (base + i)
  if left then lt' x key else return (← lt' key x).map (!·)
theorem gallop'_eq (left : Bool) (key : Keyed) (arr : Array Keyed) (base n hint : Nat) : gallop' left key arr base n hint = (do
  let mut lastofs := 0
  let mut ofs := 1
  let mut lo := 0
  let mut hi := 0
  let some right ← beyond' left key arr base hint | return none
  if right then
    let maxofs := n - hint
    for _ in [0:n] do
      if ofs ≥ maxofs then break
      let some more ← beyond' left key arr base (hint + ofs) | return none
      if !more then break
      lastofs := ofs
      ofs := 2 * ofs + 1
    lo := hint + lastofs + 1
    hi := hint + min ofs maxofs
  else
    let maxofs := hint + 1
    for _ in [0:n] do
      if ofs ≥ maxofs then break
      let some found ← beyond' left key arr base (hint - ofs) | return none
      if found then break
      lastofs := ofs
      ofs := 2 * ofs + 1
    lo := hint + 1 - min ofs maxofs
    hi := hint - lastofs
  for _ in [0:n] do
    if lo ≥ hi then break
    let m := lo + (hi - lo) / 2
    let some more ← beyond' left key arr base m | return none
    if more then lo := m + 1 else hi := m
  return some hi) := rfl
theorem setMinGallop'_eq (g : Nat) : setMinGallop' g = modify fun s => SortSt.mk' (kindOf s) (arrOf s) (pendingOf s) g (failedOf s) := rfl
theorem mergeLo'_eq (a b : Array Keyed) : mergeLo' a b = (do
  rule "list.sort.merge-lo"
  let total := a.size + b.size
  let done (out : Array Keyed) (ia ib : Nat) := out ++ a.extract ia a.size ++ b.extract ib b.size
  let lastOfA (out : Array Keyed) (ia ib : Nat) := out ++ b.extract ib b.size ++ a.extract ia a.size
  let mut out : Array Keyed := #[← elem' b 0]
  let mut ia := 0
  let mut ib := 1
  if ib == b.size then return done out ia ib
  if ia + 1 == a.size then return lastOfA out ia ib
  let mut minGallop := gallopOf (← get)
  for _ in [0:total] do
    let mut acount := 0
    let mut bcount := 0
    for _ in [0:total] do
      let some bWins ← lt' (← elem' b ib) (← elem' a ia) | return done out ia ib
      if bWins then
        out := out.push (← elem' b ib); ib := ib + 1; bcount := bcount + 1; acount := 0
        if ib == b.size then return done out ia ib
        if bcount ≥ minGallop then break
      else
        out := out.push (← elem' a ia); ia := ia + 1; acount := acount + 1; bcount := 0
        if ia + 1 == a.size then return lastOfA out ia ib
        if acount ≥ minGallop then break
    rule "list.sort.gallop"
    minGallop := minGallop + 1
    for _ in [0:total] do
      if minGallop > 1 then minGallop := minGallop - 1
      setMinGallop' minGallop
      let some k ← gallop' false (← elem' b ib) a ia (a.size - ia) 0 | return done out ia ib
      acount := k
      if k > 0 then
        out := out ++ a.extract ia (ia + k); ia := ia + k
        if ia + 1 == a.size then return lastOfA out ia ib
        if ia == a.size then return done out ia ib
      out := out.push (← elem' b ib); ib := ib + 1
      if ib == b.size then return done out ia ib
      let some k ← gallop' true (← elem' a ia) b ib (b.size - ib) 0 | return done out ia ib
      bcount := k
      if k > 0 then
        out := out ++ b.extract ib (ib + k); ib := ib + k
        if ib == b.size then return done out ia ib
      out := out.push (← elem' a ia); ia := ia + 1
      if ia + 1 == a.size then return lastOfA out ia ib
      if acount < 7 && bcount < 7 then break
    minGallop := minGallop + 1
    setMinGallop' minGallop
  unsupported "internal:list.sort.merge-bound") := rfl
theorem mergeHi'_eq (a b : Array Keyed) : mergeHi' a b = (do
  rule "list.sort.merge-hi"
  let total := a.size + b.size
  let done (out : Array Keyed) (na nb : Nat) := a.extract 0 na ++ b.extract 0 nb ++ out.reverse
  let firstOfB (out : Array Keyed) (na nb : Nat) := b.extract 0 nb ++ a.extract 0 na ++ out.reverse
  let mut na := a.size - 1
  let mut nb := b.size
  let mut out : Array Keyed := #[← elem' a na]
  if na == 0 then return done out na nb
  if nb == 1 then return firstOfB out na nb
  let mut minGallop := gallopOf (← get)
  for _ in [0:total] do
    let mut acount := 0
    let mut bcount := 0
    for _ in [0:total] do
      let some aWins ← lt' (← elem' b (nb - 1)) (← elem' a (na - 1)) | return done out na nb
      if aWins then
        na := na - 1; out := out.push (← elem' a na); acount := acount + 1; bcount := 0
        if na == 0 then return done out na nb
        if acount ≥ minGallop then break
      else
        nb := nb - 1; out := out.push (← elem' b nb); bcount := bcount + 1; acount := 0
        if nb == 1 then return firstOfB out na nb
        if bcount ≥ minGallop then break
    rule "list.sort.gallop"
    minGallop := minGallop + 1
    for _ in [0:total] do
      if minGallop > 1 then minGallop := minGallop - 1
      setMinGallop' minGallop
      let some at_ ← gallop' false (← elem' b (nb - 1)) a 0 na (na - 1) | return done out na nb
      let k := na - at_
      acount := k
      if k > 0 then
        out := out ++ (a.extract at_ na).reverse; na := at_
        if na == 0 then return done out na nb
      nb := nb - 1; out := out.push (← elem' b nb)
      if nb == 1 then return firstOfB out na nb
      let some at_ ← gallop' true (← elem' a (na - 1)) b 0 nb (nb - 1) | return done out na nb
      let k := nb - at_
      bcount := k
      if k > 0 then
        out := out ++ (b.extract at_ nb).reverse; nb := at_
        if nb == 1 then return firstOfB out na nb
        if nb == 0 then return done out na nb
      na := na - 1; out := out.push (← elem' a na)
      if na == 0 then return done out na nb
      if acount < 7 && bcount < 7 then break
    minGallop := minGallop + 1
    setMinGallop' minGallop
  unsupported "internal:list.sort.merge-bound") := rfl
theorem mergeAt'_eq (i : Nat) : mergeAt' i = (do
  let s ← get
  let (some (sa, na, power), some (sb, nb, _)) := ((pendingOf s)[i]?, (pendingOf s)[i + 1]?) | unsupported "internal:list.sort.pending"
  set (setPending s (((pendingOf s).setIfInBounds i (sa, na + nb, power)).eraseIdxIfInBounds (i + 1)))
  let some k ← gallop' false (← elem' (arrOf s) sb) (arrOf s) sa na 0 | return false
  let (sa, na) := (sa + k, na - k)
  if na == 0 then return true
  let some nb ← gallop' true (← elem' (arrOf s) (sa + na - 1)) (arrOf s) sb nb (nb - 1) | return false
  if nb == 0 then return true
  let x := (arrOf s).extract sa sb
  let y := (arrOf s).extract sb (sb + nb)
  let merged ← if na ≤ nb then mergeLo' x y else mergeHi' x y
  modify fun s => setArr s (merged.toList.zipIdx.foldl (fun a (p, j) => a.setIfInBounds (sa + j) p) (arrOf s))
  return (failedOf (← get)).isNone) := rfl
end Srt
end Mine
end
section
open PySem PySem.W PyProof.Rows PySem.Calls
set_option maxRecDepth 100000
namespace Mine
namespace Srt
/-- a pair of one and the same int that was there -/
def Good (vs : List Value) (x : Keyed) : Prop := x.1 = x.2 ∧ x.1 ∈ vs ∧ ∃ i t, x.1 = .int i t
def AllG (vs : List Value) (a : Array Keyed) : Prop := ∀ x ∈ a, Good vs x
structure SI (vs : List Value) (Z : Nat) (p : Array (Nat × Nat × Nat)) (st : SortSt) : Prop where
  kind : kindOf st = oneType'
  failed : failedOf st = none
  size : (arrOf st).size = Z
  all : AllG vs (arrOf st)
  pend : pendingOf st = p
section
variable {prog : Program} {w : World} {A : Around} {E : Value → Shared → Prop} {s : Shared} {vs : List Value} {Z : Nat} {p : Array (Nat × Nat × Nat)}
theorem AllG.at {a : Array Keyed} {i : Nat} (h : AllG vs a) (hi : i < a.size) : ∃ x, a[i]? = some x ∧ Good vs x := ⟨a[i], Array.getElem?_eq_getElem hi, h _ (Array.getElem_mem hi)⟩
theorem AllG.push {a : Array Keyed} {x : Keyed} (h : AllG vs a) (hx : Good vs x) : AllG vs (a.push x) := fun y hy => (Array.mem_push.mp hy).elim (h y) fun e => e ▸ hx
theorem AllG.append {a b : Array Keyed} (h : AllG vs a) (h2 : AllG vs b) : AllG vs (a ++ b) := fun y hy => (Array.mem_append.mp hy).elim (h y) (h2 y)
theorem AllG.extract {a : Array Keyed} {i j : Nat} (h : AllG vs a) : AllG vs (a.extract i j) := fun y hy => h y (by
  rw [Array.mem_iff_getElem?] at hy ⊢
  obtain ⟨k, hk⟩ := hy
  rw [Array.getElem?_extract] at hk
  split at hk
  · exact ⟨_, hk⟩
  · cases hk)
theorem AllG.reverse {a : Array Keyed} (h : AllG vs a) : AllG vs a.reverse := fun y hy => h y (Array.mem_reverse.mp hy)
theorem AllG.perm {a b : Array Keyed} (h : AllG vs a) (q : b.Perm a) : AllG vs b := fun y hy => h y (q.mem_iff.mp hy)
theorem wpS_elem {a : Array Keyed} {i : Nat} {st : SortSt} {Q : Keyed → SortSt → Prop} (h : AllG vs a) (hi : i < a.size) (hq : ∀ x, Good vs x → Q x st) : wpS (model prog w) A E s (elem' a i) Q st := by
  obtain ⟨x, e, g⟩ := h.at hi
  rw [elem'_eq, e]
  exact wpS_pure (hq x g)
theorem wpS_lt {x y : Keyed} {st : SortSt} {Q : Option Bool → SortSt → Prop} (hS : SI vs Z p st) (hx : Good vs x) (hy : Good vs y) (hq : ∀ b, Q (some b) st) : wpS (model prog w) A E s (lt' x y) Q st := by
  obtain ⟨_, _, i, t, e1⟩ := hx
  obtain ⟨_, _, j, u, e2⟩ := hy
  rw [lt'_eq]
  refine wpS_bind (wpS_get ?_)
  rw [hS.kind, keyLt'_oneType, e1, e2]
  refine wpS_bind (wpS_lift (wpAny_attempt (oneLt_int ⟨rfl, ?_⟩)))
  exact wpS_pure (hq _)
theorem wpS_ltA {i j : Nat} {st : SortSt} {Q : Option Bool → SortSt → Prop} (hS : SI vs Z p st) (hi : i < Z) (hj : j < Z) (hq : ∀ b, Q (some b) st) : wpS (model prog w) A E s (ltAt' i j) Q st := by
  rw [ltAt'_eq]
  refine wpS_bind (wpS_get ?_)
  show wpS _ _ _ _ (do let x ← elem' (arrOf st) i; let y ← elem' (arrOf st) j; lt' x y) Q st
  exact wpS_bind (wpS_elem hS.all (by rw [hS.size]; exact hi) fun x gx => wpS_bind (wpS_elem hS.all (by rw [hS.size]; exact hj) fun y gy => wpS_lt hS gx gy hq))
theorem wpS_rule {r : String} {st : SortSt} {Q : Unit → SortSt → Prop} (h : Q () st) : wpS (model prog w) A E s (liftM (rule r) : StateT SortSt Sem Unit) Q st := wpS_lift (wpAny_rule ⟨rfl, h⟩)
theorem SI.rev {st : SortSt} (hS : SI vs Z p st) (i j d : Nat) : SI vs Z p (setArr st (mirror (arrOf st) i j d)) := ⟨hS.kind, hS.failed, (mirror_size _ _ _ _).trans hS.size, hS.all.perm (mirror_perm _ _ _ _), hS.pend⟩
theorem SI.bub {st : SortSt} (hS : SI vs Z p st) (i d : Nat) : SI vs Z p (setArr st (bubble (arrOf st) i d)) := ⟨hS.kind, hS.failed, (bubble_size _ _ _).trans hS.size, hS.all.perm (bubble_perm _ _ _), hS.pend⟩
theorem wpS_rev {i j : Nat} {st : SortSt} {Q : Unit → SortSt → Prop} (hS : SI vs Z p st) (h : ∀ st', SI vs Z p st' → Q () st') : wpS (model prog w) A E s (reverseSlice' i j) Q st := by
  rw [reverseSlice'_eq]; exact wpS_modify (h _ (hS.rev _ _ _))
theorem wpS_down {i j : Nat} {st : SortSt} {Q : Unit → SortSt → Prop} (hS : SI vs Z p st) (h : ∀ st', SI vs Z p st' → Q () st') : wpS (model prog w) A E s (moveDown' i j) Q st := by
  rw [moveDown'_eq]; exact wpS_modify (h _ (hS.bub _ _))
theorem wpS_setG {g : Nat} {st : SortSt} {Q : Unit → SortSt → Prop} (hS : SI vs Z p st) (h : ∀ st', SI vs Z p st' → Q () st') : wpS (model prog w) A E s (setMinGallop' g) Q st := by
  rw [setMinGallop'_eq]; exact wpS_modify (h _ ⟨hS.kind, hS.failed, hS.size, hS.all, hS.pend⟩)
theorem wpS_beyond {left : Bool} {key : Keyed} {arr : Array Keyed} {base i : Nat} {st : SortSt} {Q : Option Bool → SortSt → Prop} (hS : SI vs Z p st) (hk : Good vs key) (ha : AllG vs arr) (hi : base + i < arr.size) (hq : ∀ b, Q (some b) st) : wpS (model prog w) A E s (beyond' left key arr base i) Q st := by
  unfold beyond'
  refine wpS_bind (wpS_elem ha hi fun x gx => ?_)
  cases left with
  | true => exact wpS_lt hS gx hk hq
  | false => exact wpS_bind (wpS_lt hS hk gx fun b => wpS_pure (hq _))
theorem wpS_gallop {left : Bool} {key : Keyed} {arr : Array Keyed} {base n hint : Nat} {st : SortSt} {Q : Option Nat → SortSt → Prop} (hS : SI vs Z p st) (hk : Good vs key) (ha : AllG vs arr) (hb : base + n ≤ arr.size) (hh : hint < n) (hq : ∀ k, k ≤ n → Q (some k) st) : wpS (model prog w) A E s (gallop' left key arr base n hint) Q st := by
  rw [gallop'_eq]
  refine wpS_bind (wpS_beyond hS hk ha (by omega) fun right => ?_)
  dsimp only
  cases right with
  | true =>
    rw [if_pos rfl]
    refine wpS_bind (wpS_mono (wpS_forRange (I := fun _ c st' => st' = st ∧ c.1 = none) (Q := fun c st' => st' = st ∧ c.1 = none) ?_ (fun _ _ h => h) ⟨rfl, rfl⟩) ?_)
    · rintro x ⟨c1, c2, c3⟩ st' _ _ ⟨rfl, rfl⟩
      dsimp only
      by_cases hge : c3 ≥ n - hint
      · rw [if_pos hge]; exact wpS_pure ⟨rfl, rfl⟩
      · rw [if_neg hge]
        refine wpS_bind (wpS_beyond hS hk ha (by omega) fun b => ?_)
        cases b with
        | true => exact wpS_pure ⟨rfl, rfl⟩
        | false => exact wpS_pure ⟨rfl, rfl⟩
    · rintro ⟨c1, c2, c3⟩ st' ⟨hst, hc⟩
      have hst := hst.symm
      subst hst; subst hc
      dsimp only
      refine wpS_bind (wpS_mono (wpS_forRange (I := fun _ c st' => st' = st ∧ c.1 = none ∧ c.2.2 ≤ n) (Q := fun c st' => st' = st ∧ c.1 = none ∧ c.2.2 ≤ n) ?_ (fun _ _ h => h) ⟨rfl, rfl, by dsimp only; omega⟩) ?_)
      · rintro x ⟨c1, c2, c3⟩ st' _ _ ⟨rfl, rfl, h3⟩
        dsimp only at h3 ⊢
        by_cases hge : c2 ≥ c3
        · rw [if_pos hge]; exact wpS_pure ⟨rfl, rfl, h3⟩
        · rw [if_neg hge]
          refine wpS_bind (wpS_beyond hS hk ha (by omega) fun b => ?_)
          cases b with
          | true => exact wpS_pure ⟨rfl, rfl, h3⟩
          | false => exact wpS_pure ⟨rfl, rfl, by dsimp only; omega⟩
      · rintro ⟨c1, c2, c3⟩ st' ⟨rfl, rfl, h3⟩
        exact wpS_pure (hq _ h3)
  | false =>
    rw [if_neg (by decide)]
    refine wpS_bind (wpS_mono (wpS_forRange (I := fun _ c st' => st' = st ∧ c.1 = none) (Q := fun c st' => st' = st ∧ c.1 = none) ?_ (fun _ _ h => h) ⟨rfl, rfl⟩) ?_)
    · rintro x ⟨c1, c2, c3⟩ st' _ _ ⟨rfl, rfl⟩
      dsimp only
      by_cases hge : c3 ≥ hint + 1
      · rw [if_pos hge]; exact wpS_pure ⟨rfl, rfl⟩
      · rw [if_neg hge]
        refine wpS_bind (wpS_beyond hS hk ha (by omega) fun b => ?_)
        cases b with
        | true => exact wpS_pure ⟨rfl, rfl⟩
        | false => exact wpS_pure ⟨rfl, rfl⟩
    · rintro ⟨c1, c2, c3⟩ st' ⟨hst, hc⟩
      have hst := hst.symm
      subst hst; subst hc
      dsimp only
      refine wpS_bind (wpS_mono (wpS_forRange (I := fun _ c st' => st' = st ∧ c.1 = none ∧ c.2.2 ≤ n) (Q := fun c st' => st' = st ∧ c.1 = none ∧ c.2.2 ≤ n) ?_ (fun _ _ h => h) ⟨rfl, rfl, by dsimp only; omega⟩) ?_)
      · rintro x ⟨c1, c2, c3⟩ st' _ _ ⟨rfl, rfl, h3⟩
        dsimp only at h3 ⊢
        by_cases hge : c2 ≥ c3
        · rw [if_pos hge]; exact wpS_pure ⟨rfl, rfl, h3⟩
        · rw [if_neg hge]
          refine wpS_bind (wpS_beyond hS hk ha (by omega) fun b => ?_)
          cases b with
          | true => exact wpS_pure ⟨rfl, rfl, h3⟩
          | false => exact wpS_pure ⟨rfl, rfl, by dsimp only; omega⟩
      · rintro ⟨c1, c2, c3⟩ st' ⟨rfl, rfl, h3⟩
        exact wpS_pure (hq _ h3)
end
end Srt
end Mine
end
section
open PySem PySem.W PyProof.Rows PySem.Calls
set_option maxRecDepth 100000
namespace Mine
namespace Srt
section
variable {prog : Program} {w : World} {A : Around} {E : Value → Shared → Prop} {s : Shared} {vs : List Value} {Z : Nat} {p : Array (Nat × Nat × Nat)}
/-- a merge's loop: what is out so far, or the answer -/
inductive Out (vs : List Value) (P : Prop) : Option (Array Keyed) → Array Keyed → Prop
  | go {out} : AllG vs out → P → Out vs P none out
  | fin {m out} : AllG vs m → Out vs P (some m) out
theorem ne_of_beq {a b : Nat} (h : ¬ (a == b) = true) : a ≠ b := fun e => h (beq_iff_eq.mpr e)
theorem wpS_ite {α : Type} {c : Prop} [Decidable c] {t e : StateT SortSt Sem α} {st : SortSt} {Q : α → SortSt → Prop} (h1 : c → wpS (model prog w) A E s t Q st) (h2 : ¬ c → wpS (model prog w) A E s e Q st) : wpS (model prog w) A E s (if c then t else e) Q st := by
  by_cases h : c
  · rw [if_pos h]; exact h1 h
  · rw [if_neg h]; exact h2 h
theorem wpS_pos {α : Type} {c : Prop} [Decidable c] {t e : StateT SortSt Sem α} {st : SortSt} {Q : α → SortSt → Prop} (h : c) (h1 : wpS (model prog w) A E s t Q st) : wpS (model prog w) A E s (if c then t else e) Q st := by
  rw [if_pos h]; exact h1
theorem wpS_neg {α : Type} {c : Prop} [Decidable c] {t e : StateT SortSt Sem α} {st : SortSt} {Q : α → SortSt → Prop} (h : ¬ c) (h1 : wpS (model prog w) A E s e Q st) : wpS (model prog w) A E s (if c then t else e) Q st := by
  rw [if_neg h]; exact h1
theorem wpS_forRangeP {α β γ δ ε : Type} {a b : Nat} {f : Nat → α × β × γ × δ × Nat × ε → StateT SortSt Sem (ForInStep (α × β × γ × δ × Nat × ε))} (I : Nat → α × β × γ × δ × Nat × ε → SortSt → Prop) {Q : α × β × γ × δ × Nat × ε → SortSt → Prop}
    (h1 : ∀ i x y z u m v st, I i (x, y, z, u, m, v) st → 1 ≤ m ∧ I i (x, y, z, u, 2, v) st)
    (he : ∀ i x y z u v, f i (x, y, z, u, 1, v) = f i (x, y, z, u, 2, v))
    (hstep : ∀ i x y z u m v st, a ≤ i → i < b → 1 < m → I i (x, y, z, u, m, v) st → wpS (model prog w) A E s (f i (x, y, z, u, m, v)) (fun r st' => match r with | .done c' => Q c' st' | .yield c' => I (i + 1) c' st') st)
    (hend : ∀ c st, I (max a b) c st → Q c st) {c : α × β × γ × δ × Nat × ε} {st : SortSt} (h : I a c st) : wpS (model prog w) A E s (forIn [a:b] c f) Q st := by
  refine wpS_forRange I ?_ hend h
  rintro i ⟨x, y, z, u, m, v⟩ st ha hb hI
  obtain ⟨hm, hI2⟩ := h1 _ _ _ _ _ _ _ _ hI
  by_cases h : 1 < m
  · exact wpS_mono (hstep _ _ _ _ _ _ _ _ ha hb h hI) fun r st' q => by cases r <;> exact q
  · have : m = 1 := by omega
    subst this
    rw [he]
    exact wpS_mono (hstep _ _ _ _ _ _ _ _ ha hb (by decide) hI2) fun r st' q => by cases r <;> exact q
theorem lo_end {A B ia ib t : Nat} (h : ia + 1 < A) (hn : ia + 1 + 1 ≠ A) (h2 : ib < B) (h3 : t ≤ ia + ib) : ia + 1 + 1 < A ∧ ib < B ∧ t ≤ ia + 1 + ib := by omega
theorem lo_lt {B ib : Nat} (h : ib < B) (hn : ib + 1 ≠ B) : ib + 1 < B := by omega
theorem lo_le {t x y : Nat} (h : t ≤ x + y) : t ≤ x + (y + 1) := by omega
theorem lo_le2 {t x y : Nat} (k : Nat) (h : t ≤ x + y) : t ≤ x + (y + k) := by omega
theorem lo_le3 {t x y : Nat} (k : Nat) (h : t ≤ x + y) : t ≤ x + k + y := by omega
theorem lo_room {x n : Nat} (h : x < n) : x + (n - x) ≤ n := by omega
theorem lo_gal {B x k : Nat} (h : x < B) (hk : k ≤ B - x) (hn : x + k ≠ B) : x + k < B := by omega
theorem lo_gal2 {A x k : Nat} (h : x + 1 < A) (hk : k ≤ A - x) (hn : x + k + 1 ≠ A) (hm : x + k ≠ A) : x + k + 1 < A := by omega
theorem lo_a {i j x y : Nat} (h : i + 1 + j ≤ x + y) : i + 1 + 1 ≤ x + (y + 1) := by omega
theorem lo_b {i j x y : Nat} (h : i + 1 + j ≤ x + y) : i + 1 + 1 ≤ x + 1 + y := by omega
theorem lo_c {i j x y : Nat} (h : i + 1 + j ≤ x + y) : i + 1 + (j + 1) ≤ x + (y + 1) := by omega
theorem lo_d {i j x y : Nat} (h : i + 1 + j ≤ x + y) : i + 1 + (j + 1) ≤ x + 1 + y := by omega
theorem all1 {x : Keyed} (h : Good vs x) : AllG vs #[x] := fun y hy => by
  rw [List.mem_toArray, List.mem_singleton] at hy
  exact hy ▸ h
theorem wpS_mergeLo {a b : Array Keyed} {st : SortSt} {Q : Array Keyed → SortSt → Prop} (hS : SI vs Z p st) (ha : AllG vs a) (hb : AllG vs b) (h1 : 1 ≤ a.size) (h2 : 1 ≤ b.size) (hq : ∀ m st', AllG vs m → SI vs Z p st' → Q m st') : wpS (model prog w) A E s (mergeLo' a b) Q st := by
  rw [mergeLo'_eq]
  refine wpS_bind (wpS_rule ?_)
  refine wpS_bind (wpS_elem hb (by first | omega | (dsimp only; omega) | (dsimp only at *; omega)) fun x gx => ?_)
  refine wpS_ite (fun hn => ?_) (fun hn => ?_)
  · exact wpS_pure (hq _ _ (((all1 gx).append ha.extract).append hb.extract) hS)
  have hn := ne_of_beq hn
  refine wpS_ite (fun hm => ?_) (fun hm => ?_)
  · exact wpS_pure (hq _ _ (((all1 gx).append hb.extract).append ha.extract) hS)
  have hm := ne_of_beq hm
  refine wpS_bind (wpS_get ?_)
  refine wpS_bind (wpS_mono (wpS_forRange
    (I := fun i c st' => SI vs Z p st' ∧ Out vs (c.1 = none ∧ c.2.2.1 + 1 < a.size ∧ c.2.2.2.1 < b.size ∧ i + 1 ≤ c.2.2.1 + c.2.2.2.1) none c.2.1)
    (Q := fun c st' => SI vs Z p st' ∧ Out vs False c.1 c.2.1) ?step ?fin ⟨hS, .go (all1 gx) ⟨rfl, by first | omega | (dsimp only; omega) | (dsimp only at *; omega), by first | omega | (dsimp only; omega) | (dsimp only at *; omega), by first | omega | (dsimp only; omega) | (dsimp only at *; omega)⟩⟩) ?post)
  case fin =>
    rintro ⟨c1, out, ia, ib, mg⟩ st' ⟨hS', ho⟩
    cases ho with
    | go ho hp => obtain ⟨hc, hia, hib, ht⟩ := hp; dsimp only at hia hib ht; omega
  case post =>
    rintro ⟨c1, out, ia, ib, mg⟩ st' ⟨hS', ho⟩
    dsimp only at ho
    cases ho with
    | go ho hp => exact hp.elim
    | fin hm => exact wpS_pure (hq _ _ hm hS')
  case step =>
    rintro i ⟨c1, out, ia, ib, mg⟩ st' _ hi ⟨hS', ho⟩
    dsimp only at ho
    cases ho with
    | go ho hp => ?_
    obtain ⟨hc, hia, hib, ht⟩ := hp
    subst hc
    refine wpS_bind (wpS_mono (wpS_forRange
      (I := fun j c st' => SI vs Z p st' ∧ Out vs (c.1 = none ∧ c.2.2.1 + 1 < a.size ∧ c.2.2.2.1 < b.size ∧ i + 1 + j ≤ c.2.2.1 + c.2.2.2.1) none c.2.1)
      (Q := fun c st' => SI vs Z p st' ∧ Out vs (c.2.2.1 + 1 < a.size ∧ c.2.2.2.1 < b.size ∧ i + 1 + 1 ≤ c.2.2.1 + c.2.2.2.1) c.1 c.2.1) ?step1 ?fin1 ⟨hS', .go ho ⟨rfl, hia, hib, ht⟩⟩) ?post1)
    case fin1 =>
      rintro ⟨c1, out, ia, ib, mg⟩ st' ⟨hS', ho⟩
      cases ho with
      | go ho hp =>
        obtain ⟨hc, hia, hib, ht⟩ := hp
        dsimp only at hc hia hib ht
        subst hc
        exact ⟨hS', .go ho ⟨hia, hib, by first | omega | (dsimp only; omega) | (dsimp only at *; omega)⟩⟩
    case step1 =>
      rintro j ⟨c1, out, ia, ib, ac, bc⟩ st' _ hj ⟨hS', ho⟩
      dsimp only at ho
      cases ho with
      | go ho hp => ?_
      obtain ⟨hc, hia, hib, ht⟩ := hp
      subst hc
      refine wpS_bind (wpS_elem hb hib fun y gy => wpS_bind (wpS_elem ha (Nat.lt_of_succ_lt hia) fun z gz => wpS_bind (wpS_lt hS' gy gz fun bw => ?_)))
      cases bw with
      | true =>
        refine wpS_pos rfl ?_
        refine wpS_bind (wpS_elem hb hib fun y2 gy2 => ?_)
        refine wpS_ite (fun hn2 => ?_) (fun hn2 => ?_)
        · exact wpS_pure ⟨hS', .fin (((ho.push gy2).append ha.extract).append hb.extract)⟩
        · have hn2 := ne_of_beq hn2
          refine wpS_ite (fun hn9 => ?_) (fun hn9 => ?_)
          · exact wpS_pure ⟨hS', .go (ho.push gy2) ⟨hia, lo_lt hib hn2, lo_a ht⟩⟩
          · exact wpS_pure ⟨hS', .go (ho.push gy2) ⟨rfl, hia, lo_lt hib hn2, lo_c ht⟩⟩
      | false =>
        refine wpS_neg Bool.false_ne_true ?_
        refine wpS_bind (wpS_elem ha (Nat.lt_of_succ_lt hia) fun y2 gy2 => ?_)
        refine wpS_ite (fun hn2 => ?_) (fun hn2 => ?_)
        · exact wpS_pure ⟨hS', .fin (((ho.push gy2).append hb.extract).append ha.extract)⟩
        · have hn2 := ne_of_beq hn2
          refine wpS_ite (fun hn9 => ?_) (fun hn9 => ?_)
          · exact wpS_pure ⟨hS', .go (ho.push gy2) ⟨lo_lt hia hn2, hib, lo_b ht⟩⟩
          · exact wpS_pure ⟨hS', .go (ho.push gy2) ⟨rfl, lo_lt hia hn2, hib, lo_d ht⟩⟩
    case post1 =>
      rintro ⟨c1, out, ia, ib, ac, bc⟩ st' ⟨hS', ho⟩
      dsimp only at ho
      cases ho with
      | fin hm => exact wpS_pure ⟨hS', .fin hm⟩
      | go ho hp => ?_
      obtain ⟨hia, hib, ht⟩ := hp
      refine wpS_bind (wpS_rule ?_)
      refine wpS_bind (wpS_mono (wpS_forRangeP
        (I := fun j c st' => SI vs Z p st' ∧ Out vs (1 ≤ c.2.2.2.2.1 ∧ c.1 = none ∧ c.2.2.1 + 1 < a.size ∧ c.2.2.2.1 < b.size ∧ i + 1 + 1 ≤ c.2.2.1 + c.2.2.2.1) none c.2.1)
        (Q := fun c st' => SI vs Z p st' ∧ Out vs (c.2.2.1 + 1 < a.size ∧ c.2.2.2.1 < b.size ∧ i + 1 + 1 ≤ c.2.2.1 + c.2.2.2.1) c.1 c.2.1) ?norm2 (fun _ _ _ _ _ _ => (if_neg (Nat.lt_irrefl 1)).trans (if_pos (Nat.lt_succ_self 1)).symm) ?step2 ?fin2 ⟨hS', .go ho ⟨Nat.le_add_left .., rfl, hia, hib, ht⟩⟩) ?post2)
      case norm2 =>
        rintro j c1 out ia ib mg ⟨ac, bc⟩ st' ⟨hS', ho⟩
        dsimp only at ho
        cases ho with
        | go ho hp =>
        exact ⟨hp.1, hS', .go ho ⟨Nat.le_succ 1, hp.2⟩⟩
      case fin2 =>
        rintro ⟨c1, out, ia, ib, mg, ac, bc⟩ st' ⟨hS', ho⟩
        cases ho with
        | go ho hp =>
          obtain ⟨hmg, hc, hia, hib, ht⟩ := hp
          dsimp only at hmg hc hia hib ht
          subst hc
          exact ⟨hS', .go ho ⟨hia, hib, ht⟩⟩
      case post2 =>
        rintro ⟨c1, out, ia, ib, mg, ac, bc⟩ st' ⟨hS', ho⟩
        dsimp only at ho
        cases ho with
        | fin hm => exact wpS_pure ⟨hS', .fin hm⟩
        | go ho hp =>
          obtain ⟨hia, hib, ht⟩ := hp
          exact wpS_bind (wpS_setG hS' fun st2 hS2 => wpS_pure ⟨hS2, .go ho ⟨rfl, hia, hib, ht⟩⟩)
      case step2 =>
        rintro j c1 out ia ib mg ⟨ac, bc⟩ st' _ hj hm1 ⟨hS', ho⟩
        dsimp only at ho
        cases ho with
        | go ho hp => ?_
        obtain ⟨hmg, hc, hia, hib, ht⟩ := hp
        subst hc
        refine wpS_pos hm1 ?_
        refine wpS_bind (wpS_setG hS' fun st2 hS2 => ?_)
        refine wpS_bind (wpS_elem hb hib fun y gy => wpS_bind (wpS_gallop hS2 gy ha (lo_room (Nat.lt_of_succ_lt hia)) (Nat.sub_pos_of_lt (Nat.lt_of_succ_lt hia)) fun k hk => ?_))
        refine wpS_ite (fun hn9 => ?_) (fun hn9 => ?_)
        · refine wpS_ite (fun hn0 => ?_) (fun hn0 => ?_)
          · exact wpS_pure ⟨hS2, .fin (((ho.append ha.extract).append hb.extract).append ha.extract)⟩
          · refine wpS_ite (fun hn1 => ?_) (fun hn1 => ?_)
            · exact wpS_pure ⟨hS2, .fin (((ho.append ha.extract).append ha.extract).append hb.extract)⟩
            · have hia2 := lo_gal2 hia hk (ne_of_beq hn0) (ne_of_beq hn1)
              have ht1 := lo_le3 k ht
              refine wpS_bind (wpS_elem hb hib fun y2 gy2 => ?_)
              refine wpS_ite (fun hn2 => ?_) (fun hn2 => ?_)
              · exact wpS_pure ⟨hS2, .fin ((((ho.append ha.extract).push gy2).append ha.extract).append hb.extract)⟩
              · have hib2 := lo_lt hib (ne_of_beq hn2)
                have ht2 := lo_le ht1
                refine wpS_bind (wpS_elem ha (Nat.lt_of_succ_lt hia2) fun z gz => wpS_bind (wpS_gallop hS2 gz hb (lo_room hib2) (Nat.sub_pos_of_lt hib2) fun k2 hk2 => ?_))
                refine wpS_ite (fun hn9 => ?_) (fun hn9 => ?_)
                · refine wpS_ite (fun hn4 => ?_) (fun hn4 => ?_)
                  · exact wpS_pure ⟨hS2, .fin (((((ho.append ha.extract).push gy2).append hb.extract).append ha.extract).append hb.extract)⟩
                  · have hib3 := lo_gal hib2 hk2 (ne_of_beq hn4)
                    have ht3 := lo_le2 k2 ht2
                    refine wpS_bind (wpS_elem ha (Nat.lt_of_succ_lt hia2) fun z2 gz2 => ?_)
                    refine wpS_ite (fun hn3 => ?_) (fun hn3 => ?_)
                    · exact wpS_pure ⟨hS2, .fin ((((((ho.append ha.extract).push gy2).append hb.extract).push gz2).append hb.extract).append ha.extract)⟩
                    · have q := lo_end hia2 (ne_of_beq hn3) hib3 ht3
                      refine wpS_ite (fun _ => ?_) (fun _ => ?_)
                      · exact wpS_pure ⟨hS2, .go ((((ho.append ha.extract).push gy2).append hb.extract).push gz2) q⟩
                      · exact wpS_pure ⟨hS2, .go ((((ho.append ha.extract).push gy2).append hb.extract).push gz2) ⟨Nat.le_sub_one_of_lt hm1, rfl, q⟩⟩
                · refine wpS_bind (wpS_elem ha (Nat.lt_of_succ_lt hia2) fun z2 gz2 => ?_)
                  refine wpS_ite (fun hn3 => ?_) (fun hn3 => ?_)
                  · exact wpS_pure ⟨hS2, .fin (((((ho.append ha.extract).push gy2).push gz2).append hb.extract).append ha.extract)⟩
                  · have q := lo_end hia2 (ne_of_beq hn3) hib2 ht2
                    refine wpS_ite (fun _ => ?_) (fun _ => ?_)
                    · exact wpS_pure ⟨hS2, .go (((ho.append ha.extract).push gy2).push gz2) q⟩
                    · exact wpS_pure ⟨hS2, .go (((ho.append ha.extract).push gy2).push gz2) ⟨Nat.le_sub_one_of_lt hm1, rfl, q⟩⟩
        · refine wpS_bind (wpS_elem hb hib fun y2 gy2 => ?_)
          refine wpS_ite (fun hn2 => ?_) (fun hn2 => ?_)
          · exact wpS_pure ⟨hS2, .fin ((((ho).push gy2).append ha.extract).append hb.extract)⟩
          · have hib2 := lo_lt hib (ne_of_beq hn2)
            have ht2 := lo_le ht
            refine wpS_bind (wpS_elem ha (Nat.lt_of_succ_lt hia) fun z gz => wpS_bind (wpS_gallop hS2 gz hb (lo_room hib2) (Nat.sub_pos_of_lt hib2) fun k2 hk2 => ?_))
            refine wpS_ite (fun hn9 => ?_) (fun hn9 => ?_)
            · refine wpS_ite (fun hn4 => ?_) (fun hn4 => ?_)
              · exact wpS_pure ⟨hS2, .fin (((((ho).push gy2).append hb.extract).append ha.extract).append hb.extract)⟩
              · have hib3 := lo_gal hib2 hk2 (ne_of_beq hn4)
                have ht3 := lo_le2 k2 ht2
                refine wpS_bind (wpS_elem ha (Nat.lt_of_succ_lt hia) fun z2 gz2 => ?_)
                refine wpS_ite (fun hn3 => ?_) (fun hn3 => ?_)
                · exact wpS_pure ⟨hS2, .fin ((((((ho).push gy2).append hb.extract).push gz2).append hb.extract).append ha.extract)⟩
                · have q := lo_end hia (ne_of_beq hn3) hib3 ht3
                  refine wpS_ite (fun _ => ?_) (fun _ => ?_)
                  · exact wpS_pure ⟨hS2, .go ((((ho).push gy2).append hb.extract).push gz2) q⟩
                  · exact wpS_pure ⟨hS2, .go ((((ho).push gy2).append hb.extract).push gz2) ⟨Nat.le_sub_one_of_lt hm1, rfl, q⟩⟩
            · refine wpS_bind (wpS_elem ha (Nat.lt_of_succ_lt hia) fun z2 gz2 => ?_)
              refine wpS_ite (fun hn3 => ?_) (fun hn3 => ?_)
              · exact wpS_pure ⟨hS2, .fin (((((ho).push gy2).push gz2).append hb.extract).append ha.extract)⟩
              · have q := lo_end hia (ne_of_beq hn3) hib2 ht2
                refine wpS_ite (fun _ => ?_) (fun _ => ?_)
                · exact wpS_pure ⟨hS2, .go (((ho).push gy2).push gz2) q⟩
                · exact wpS_pure ⟨hS2, .go (((ho).push gy2).push gz2) ⟨Nat.le_sub_one_of_lt hm1, rfl, q⟩⟩
end
end Srt
end Mine
end
section
open PySem PySem.W PyProof.Rows PySem.Calls
set_option maxRecDepth 100000
namespace Mine
namespace Srt
theorem hi_lt {n A : Nat} (h : 1 ≤ n) (h2 : n ≤ A) : n - 1 < A := by omega
theorem hi_le {n A : Nat} (h2 : n ≤ A) : n - 1 ≤ A := by omega
theorem hi_zero {n A : Nat} (h2 : n ≤ A) : 0 + n ≤ A := by omega
theorem hi_two {n : Nat} (h : 2 ≤ n) (hn : n - 1 ≠ 1) : 2 ≤ n - 1 := by omega
theorem hi_two' {n : Nat} (h : n ≠ 1) (hn : n ≠ 0) : 2 ≤ n := by omega
theorem hi_dec {x y t T : Nat} (h : x + y + t + 1 ≤ T) : x + (y - 1) + t + 1 ≤ T := by omega
theorem hi_sub {x y t T k : Nat} (hk : k ≤ y) (h : x + y + t + 1 ≤ T) : x + k + t + 1 ≤ T := by omega
theorem hi_sub1 {x y t T k : Nat} (hk : k ≤ x) (h : x + y + t + 1 ≤ T) : k + y + t + 1 ≤ T := by omega
theorem hi_end {A B na nb t T : Nat} (h : 1 ≤ na) (hn : na - 1 ≠ 0) (h2 : 2 ≤ nb) (h3 : na ≤ A) (h4 : nb ≤ B) (ht : na + nb + t + 1 ≤ T) : 1 ≤ na - 1 ∧ 2 ≤ nb ∧ na - 1 ≤ A ∧ nb ≤ B ∧ na - 1 + nb + t + 1 ≤ T := by omega
theorem hi_a {na nb t T j : Nat} (h : 1 ≤ na) (ht : na + nb + t + j ≤ T) : na - 1 + nb + t + 1 ≤ T := by omega
theorem hi_b {na nb t T j : Nat} (h : 1 ≤ na) (ht : na + nb + t + j ≤ T) : na - 1 + nb + t + (j + 1) ≤ T := by omega
theorem hi_c {na nb t T j : Nat} (h : 2 ≤ nb) (ht : na + nb + t + j ≤ T) : na + (nb - 1) + t + 1 ≤ T := by omega
theorem hi_d {na nb t T j : Nat} (h : 2 ≤ nb) (ht : na + nb + t + j ≤ T) : na + (nb - 1) + t + (j + 1) ≤ T := by omega
section
variable {prog : Program} {w : World} {A : Around} {E : Value → Shared → Prop} {s : Shared} {vs : List Value} {Z : Nat} {p : Array (Nat × Nat × Nat)}
theorem wpS_mergeHi {a b : Array Keyed} {st : SortSt} {Q : Array Keyed → SortSt → Prop} (hS : SI vs Z p st) (ha : AllG vs a) (hb : AllG vs b) (h1 : 1 ≤ a.size) (h2 : 1 ≤ b.size) (hq : ∀ m st', AllG vs m → SI vs Z p st' → Q m st') : wpS (model prog w) A E s (mergeHi' a b) Q st := by
  rw [mergeHi'_eq]
  refine wpS_bind (wpS_rule ?_)
  refine wpS_bind (wpS_elem ha (by first | omega | (dsimp only; omega) | (dsimp only at *; omega)) fun x gx => ?_)
  refine wpS_ite (fun hn => ?_) (fun hn => ?_)
  · exact wpS_pure (hq _ _ ((ha.extract.append hb.extract).append (AllG.reverse (all1 gx))) hS)
  have hn := ne_of_beq hn
  refine wpS_ite (fun hm => ?_) (fun hm => ?_)
  · exact wpS_pure (hq _ _ ((hb.extract.append ha.extract).append (AllG.reverse (all1 gx))) hS)
  have hm := ne_of_beq hm
  refine wpS_bind (wpS_get ?_)
  refine wpS_bind (wpS_mono (wpS_forRange
    (I := fun i c st' => SI vs Z p st' ∧ Out vs (c.1 = none ∧ 1 ≤ c.2.1 ∧ 2 ≤ c.2.2.1 ∧ c.2.1 ≤ a.size ∧ c.2.2.1 ≤ b.size ∧ c.2.1 + c.2.2.1 + (i + 1)  ≤ a.size + b.size) none c.2.2.2.1)
    (Q := fun c st' => SI vs Z p st' ∧ Out vs False c.1 c.2.2.2.1) ?step ?fin ⟨hS, .go (all1 gx) ⟨rfl, by first | omega | (dsimp only; omega) | (dsimp only at *; omega), by first | omega | (dsimp only; omega) | (dsimp only at *; omega), by first | omega | (dsimp only; omega) | (dsimp only at *; omega), by first | omega | (dsimp only; omega) | (dsimp only at *; omega), by first | omega | (dsimp only; omega) | (dsimp only at *; omega)⟩⟩) ?post)
  case fin =>
    rintro ⟨c1, na, nb, out, mg⟩ st' ⟨hS', ho⟩
    cases ho with
    | go ho hp => obtain ⟨hc, g1, g2, g3, g4, ht⟩ := hp; dsimp only at g1 g2 g3 g4 ht; omega
  case post =>
    rintro ⟨c1, na, nb, out, mg⟩ st' ⟨hS', ho⟩
    dsimp only at ho
    cases ho with
    | go ho hp => exact hp.elim
    | fin hm => exact wpS_pure (hq _ _ hm hS')
  case step =>
    rintro i ⟨c1, na, nb, out, mg⟩ st' _ hi ⟨hS', ho⟩
    dsimp only at ho
    cases ho with
    | go ho hp => ?_
    obtain ⟨hc, g1, g2, g3, g4, ht⟩ := hp
    subst hc
    refine wpS_bind (wpS_mono (wpS_forRange
      (I := fun j c st' => SI vs Z p st' ∧ Out vs (c.1 = none ∧ 1 ≤ c.2.1 ∧ 2 ≤ c.2.2.1 ∧ c.2.1 ≤ a.size ∧ c.2.2.1 ≤ b.size ∧ c.2.1 + c.2.2.1 + (i + 1)  + j ≤ a.size + b.size) none c.2.2.2.1)
      (Q := fun c st' => SI vs Z p st' ∧ Out vs (1 ≤ c.2.1 ∧ 2 ≤ c.2.2.1 ∧ c.2.1 ≤ a.size ∧ c.2.2.1 ≤ b.size ∧ c.2.1 + c.2.2.1 + (i + 1)  + 1 ≤ a.size + b.size) c.1 c.2.2.2.1) ?step1 ?fin1 ⟨hS', .go ho ⟨rfl, g1, g2, g3, g4, ht⟩⟩) ?post1)
    case fin1 =>
      rintro ⟨c1, na, nb, out, mg⟩ st' ⟨hS', ho⟩
      cases ho with
      | go ho hp =>
        obtain ⟨hc, g1, g2, g3, g4, ht⟩ := hp
        dsimp only at hc g1 g2 g3 g4 ht
        subst hc
        exact ⟨hS', .go ho ⟨g1, g2, g3, g4, by first | omega | (dsimp only; omega) | (dsimp only at *; omega)⟩⟩
    case step1 =>
      rintro j ⟨c1, na, nb, out, ac, bc⟩ st' _ hj ⟨hS', ho⟩
      dsimp only at ho
      cases ho with
      | go ho hp => ?_
      obtain ⟨hc, g1, g2, g3, g4, ht⟩ := hp
      subst hc
      refine wpS_bind (wpS_elem hb (hi_lt (Nat.le_of_succ_le g2) g4) fun y gy => wpS_bind (wpS_elem ha (hi_lt g1 g3) fun z gz => wpS_bind (wpS_lt hS' gy gz fun bw => ?_)))
      cases bw with
      | true =>
        refine wpS_pos rfl ?_
        refine wpS_bind (wpS_elem ha (hi_lt g1 g3) fun y2 gy2 => ?_)
        refine wpS_ite (fun hn2 => ?_) (fun hn2 => ?_)
        · exact wpS_pure ⟨hS', .fin ((ha.extract.append hb.extract).append (AllG.reverse (ho.push gy2)))⟩
        · have hn2 := ne_of_beq hn2
          refine wpS_ite (fun _ => ?_) (fun _ => ?_)
          · exact wpS_pure ⟨hS', .go (ho.push gy2) ⟨Nat.one_le_iff_ne_zero.mpr hn2, g2, hi_le g3, g4, hi_a g1 ht⟩⟩
          · exact wpS_pure ⟨hS', .go (ho.push gy2) ⟨rfl, Nat.one_le_iff_ne_zero.mpr hn2, g2, hi_le g3, g4, hi_b g1 ht⟩⟩
      | false =>
        refine wpS_neg Bool.false_ne_true ?_
        refine wpS_bind (wpS_elem hb (hi_lt (Nat.le_of_succ_le g2) g4) fun y2 gy2 => ?_)
        refine wpS_ite (fun hn2 => ?_) (fun hn2 => ?_)
        · exact wpS_pure ⟨hS', .fin ((hb.extract.append ha.extract).append (AllG.reverse (ho.push gy2)))⟩
        · have hn2 := ne_of_beq hn2
          refine wpS_ite (fun _ => ?_) (fun _ => ?_)
          · exact wpS_pure ⟨hS', .go (ho.push gy2) ⟨g1, hi_two g2 hn2, g3, hi_le g4, hi_c g2 ht⟩⟩
          · exact wpS_pure ⟨hS', .go (ho.push gy2) ⟨rfl, g1, hi_two g2 hn2, g3, hi_le g4, hi_d g2 ht⟩⟩
    case post1 =>
      rintro ⟨c1, na, nb, out, ac, bc⟩ st' ⟨hS', ho⟩
      dsimp only at ho
      cases ho with
      | fin hm => exact wpS_pure ⟨hS', .fin hm⟩
      | go ho hp => ?_
      obtain ⟨g1, g2, g3, g4, ht⟩ := hp
      refine wpS_bind (wpS_rule ?_)
      refine wpS_bind (wpS_mono (wpS_forRangeP
        (I := fun j c st' => SI vs Z p st' ∧ Out vs (1 ≤ c.2.2.2.2.1 ∧ c.1 = none ∧ 1 ≤ c.2.1 ∧ 2 ≤ c.2.2.1 ∧ c.2.1 ≤ a.size ∧ c.2.2.1 ≤ b.size ∧ c.2.1 + c.2.2.1 + (i + 1)  + 1 ≤ a.size + b.size) none c.2.2.2.1)
        (Q := fun c st' => SI vs Z p st' ∧ Out vs (1 ≤ c.2.1 ∧ 2 ≤ c.2.2.1 ∧ c.2.1 ≤ a.size ∧ c.2.2.1 ≤ b.size ∧ c.2.1 + c.2.2.1 + (i + 1)  + 1 ≤ a.size + b.size) c.1 c.2.2.2.1) ?norm2 (fun _ _ _ _ _ _ => (if_neg (Nat.lt_irrefl 1)).trans (if_pos (Nat.lt_succ_self 1)).symm) ?step2 ?fin2 ⟨hS', .go ho ⟨Nat.le_add_left .., rfl, g1, g2, g3, g4, ht⟩⟩) ?post2)
      case norm2 =>
        rintro j c1 na nb out mg ⟨ac, bc⟩ st' ⟨hS', ho⟩
        dsimp only at ho
        cases ho with
        | go ho hp =>
        exact ⟨hp.1, hS', .go ho ⟨Nat.le_succ 1, hp.2⟩⟩
      case fin2 =>
        rintro ⟨c1, na, nb, out, mg, ac, bc⟩ st' ⟨hS', ho⟩
        cases ho with
        | go ho hp =>
          obtain ⟨hmg, hc, g1, g2, g3, g4, ht⟩ := hp
          dsimp only at hmg hc g1 g2 g3 g4 ht
          subst hc
          exact ⟨hS', .go ho ⟨g1, g2, g3, g4, ht⟩⟩
      case post2 =>
        rintro ⟨c1, na, nb, out, mg, ac, bc⟩ st' ⟨hS', ho⟩
        dsimp only at ho
        cases ho with
        | fin hm => exact wpS_pure ⟨hS', .fin hm⟩
        | go ho hp =>
          obtain ⟨g1, g2, g3, g4, ht⟩ := hp
          exact wpS_bind (wpS_setG hS' fun st2 hS2 => wpS_pure ⟨hS2, .go ho ⟨rfl, g1, g2, g3, g4, by dsimp only at ht ⊢; omega⟩⟩)
      case step2 =>
        rintro j c1 na nb out mg ⟨ac, bc⟩ st' _ hj hm1 ⟨hS', ho⟩
        dsimp only at ho
        cases ho with
        | go ho hp => ?_
        obtain ⟨hmg, hc, g1, g2, g3, g4, ht⟩ := hp
        subst hc
        refine wpS_pos hm1 ?_
        refine wpS_bind (wpS_setG hS' fun st2 hS2 => ?_)
        refine wpS_bind (wpS_elem hb (hi_lt (Nat.le_of_succ_le g2) g4) fun y gy => wpS_bind (wpS_gallop hS2 gy ha (hi_zero g3) (Nat.sub_lt g1 Nat.one_pos) fun k hk => ?_))
        refine wpS_ite (fun hn8 => ?_) (fun hn8 => ?_)
        · refine wpS_ite (fun hn0 => ?_) (fun hn0 => ?_)
          · exact wpS_pure ⟨hS2, .fin ((ha.extract.append hb.extract).append (AllG.reverse (ho.append (AllG.reverse ha.extract))))⟩
          · have e1 := Nat.one_le_iff_ne_zero.mpr (ne_of_beq hn0)
            have ht1 := hi_sub1 hk ht
            refine wpS_bind (wpS_elem hb (hi_lt (Nat.le_of_succ_le g2) g4) fun y2 gy2 => ?_)
            refine wpS_ite (fun hn2 => ?_) (fun hn2 => ?_)
            · exact wpS_pure ⟨hS2, .fin ((hb.extract.append ha.extract).append (AllG.reverse ((ho.append (AllG.reverse ha.extract)).push gy2)))⟩
            · have f2 := hi_two g2 (ne_of_beq hn2)
              have f4 := hi_le g4
              have ht2 := hi_dec ht1
              refine wpS_bind (wpS_elem ha (hi_lt e1 (Nat.le_trans hk g3)) fun z gz => wpS_bind (wpS_gallop hS2 gz hb (hi_zero f4) (Nat.sub_lt (Nat.le_of_succ_le f2) Nat.one_pos) fun k2 hk2 => ?_))
              refine wpS_ite (fun hn9 => ?_) (fun hn9 => ?_)
              · refine wpS_ite (fun hn4 => ?_) (fun hn4 => ?_)
                · exact wpS_pure ⟨hS2, .fin ((hb.extract.append ha.extract).append (AllG.reverse (((ho.append (AllG.reverse ha.extract)).push gy2).append (AllG.reverse hb.extract))))⟩
                · refine wpS_ite (fun hn5 => ?_) (fun hn5 => ?_)
                  · exact wpS_pure ⟨hS2, .fin ((ha.extract.append hb.extract).append (AllG.reverse (((ho.append (AllG.reverse ha.extract)).push gy2).append (AllG.reverse hb.extract))))⟩
                  · have e2 := hi_two' (ne_of_beq hn4) (ne_of_beq hn5)
                    have ht3 := hi_sub hk2 ht2
                    refine wpS_bind (wpS_elem ha (hi_lt e1 (Nat.le_trans hk g3)) fun z2 gz2 => ?_)
                    refine wpS_ite (fun hn3 => ?_) (fun hn3 => ?_)
                    · exact wpS_pure ⟨hS2, .fin ((ha.extract.append hb.extract).append (AllG.reverse ((((ho.append (AllG.reverse ha.extract)).push gy2).append (AllG.reverse hb.extract)).push gz2)))⟩
                    · have q := hi_end e1 (ne_of_beq hn3) e2 (Nat.le_trans hk g3) (Nat.le_trans hk2 f4) ht3
                      refine wpS_ite (fun _ => ?_) (fun _ => ?_)
                      · exact wpS_pure ⟨hS2, .go ((((ho.append (AllG.reverse ha.extract)).push gy2).append (AllG.reverse hb.extract)).push gz2) q⟩
                      · exact wpS_pure ⟨hS2, .go ((((ho.append (AllG.reverse ha.extract)).push gy2).append (AllG.reverse hb.extract)).push gz2) ⟨Nat.le_sub_one_of_lt hm1, rfl, q⟩⟩
              · refine wpS_bind (wpS_elem ha (hi_lt e1 (Nat.le_trans hk g3)) fun z2 gz2 => ?_)
                refine wpS_ite (fun hn3 => ?_) (fun hn3 => ?_)
                · exact wpS_pure ⟨hS2, .fin ((ha.extract.append hb.extract).append (AllG.reverse (((ho.append (AllG.reverse ha.extract)).push gy2).push gz2)))⟩
                · have q := hi_end e1 (ne_of_beq hn3) f2 (Nat.le_trans hk g3) f4 ht2
                  refine wpS_ite (fun _ => ?_) (fun _ => ?_)
                  · exact wpS_pure ⟨hS2, .go (((ho.append (AllG.reverse ha.extract)).push gy2).push gz2) q⟩
                  · exact wpS_pure ⟨hS2, .go (((ho.append (AllG.reverse ha.extract)).push gy2).push gz2) ⟨Nat.le_sub_one_of_lt hm1, rfl, q⟩⟩
        · refine wpS_bind (wpS_elem hb (hi_lt (Nat.le_of_succ_le g2) g4) fun y2 gy2 => ?_)
          refine wpS_ite (fun hn2 => ?_) (fun hn2 => ?_)
          · exact wpS_pure ⟨hS2, .fin ((hb.extract.append ha.extract).append (AllG.reverse ((ho).push gy2)))⟩
          · have f2 := hi_two g2 (ne_of_beq hn2)
            have f4 := hi_le g4
            have ht2 := hi_dec ht
            refine wpS_bind (wpS_elem ha (hi_lt g1 g3) fun z gz => wpS_bind (wpS_gallop hS2 gz hb (hi_zero f4) (Nat.sub_lt (Nat.le_of_succ_le f2) Nat.one_pos) fun k2 hk2 => ?_))
            refine wpS_ite (fun hn9 => ?_) (fun hn9 => ?_)
            · refine wpS_ite (fun hn4 => ?_) (fun hn4 => ?_)
              · exact wpS_pure ⟨hS2, .fin ((hb.extract.append ha.extract).append (AllG.reverse (((ho).push gy2).append (AllG.reverse hb.extract))))⟩
              · refine wpS_ite (fun hn5 => ?_) (fun hn5 => ?_)
                · exact wpS_pure ⟨hS2, .fin ((ha.extract.append hb.extract).append (AllG.reverse (((ho).push gy2).append (AllG.reverse hb.extract))))⟩
                · have e2 := hi_two' (ne_of_beq hn4) (ne_of_beq hn5)
                  have ht3 := hi_sub hk2 ht2
                  refine wpS_bind (wpS_elem ha (hi_lt g1 g3) fun z2 gz2 => ?_)
                  refine wpS_ite (fun hn3 => ?_) (fun hn3 => ?_)
                  · exact wpS_pure ⟨hS2, .fin ((ha.extract.append hb.extract).append (AllG.reverse ((((ho).push gy2).append (AllG.reverse hb.extract)).push gz2)))⟩
                  · have q := hi_end g1 (ne_of_beq hn3) e2 g3 (Nat.le_trans hk2 f4) ht3
                    refine wpS_ite (fun _ => ?_) (fun _ => ?_)
                    · exact wpS_pure ⟨hS2, .go ((((ho).push gy2).append (AllG.reverse hb.extract)).push gz2) q⟩
                    · exact wpS_pure ⟨hS2, .go ((((ho).push gy2).append (AllG.reverse hb.extract)).push gz2) ⟨Nat.le_sub_one_of_lt hm1, rfl, q⟩⟩
            · refine wpS_bind (wpS_elem ha (hi_lt g1 g3) fun z2 gz2 => ?_)
              refine wpS_ite (fun hn3 => ?_) (fun hn3 => ?_)
              · exact wpS_pure ⟨hS2, .fin ((ha.extract.append hb.extract).append (AllG.reverse (((ho).push gy2).push gz2)))⟩
              · have q := hi_end g1 (ne_of_beq hn3) f2 g3 f4 ht2
                refine wpS_ite (fun _ => ?_) (fun _ => ?_)
                · exact wpS_pure ⟨hS2, .go (((ho).push gy2).push gz2) q⟩
                · exact wpS_pure ⟨hS2, .go (((ho).push gy2).push gz2) ⟨Nat.le_sub_one_of_lt hm1, rfl, q⟩⟩
end
end Srt
end Mine
end
section
open PySem PySem.W PyProof.Rows PySem.Calls
set_option maxRecDepth 100000
namespace Mine
namespace Srt
/-- runs one behind the other -/
inductive Runs : List (Nat × Nat × Nat) → Nat → Nat → Prop
  | nil {x} : Runs [] x x
  | cons {x n pw l hi} : 1 ≤ n → Runs l (x + n) hi → Runs ((x, n, pw) :: l) x hi
theorem Runs.le {l lo hi} (h : Runs l lo hi) : lo ≤ hi := by
  induction h with
  | nil => exact Nat.le_refl _
  | cons h1 _ ih => omega
theorem Runs.snoc {l lo hi n pw} (h : Runs l lo hi) (hn : 1 ≤ n) : Runs (l ++ [(hi, n, pw)]) lo (hi + n) := by
  induction h with
  | nil => exact .cons hn .nil
  | cons h1 _ ih => exact .cons h1 ih
theorem Runs.modify {l lo hi pw} (h : Runs l lo hi) : ∀ j, Runs (l.modify j fun x => (x.1, x.2.1, pw)) lo hi := by
  induction h with
  | nil => intro j; cases j <;> exact .nil
  | cons h1 hl ih => intro j; cases j with
    | zero => exact .cons h1 hl
    | succ j => exact .cons h1 (ih j)
theorem Runs.cut {l lo hi} (h : Runs l lo hi) : ∀ i, i + 1 < l.length → ∃ pre suf sa na pa nb pb, l = pre ++ (sa, na, pa) :: (sa + na, nb, pb) :: suf ∧ pre.length = i ∧ 1 ≤ na ∧ 1 ≤ nb ∧ sa + na + nb ≤ hi ∧ Runs (pre ++ (sa, na + nb, pa) :: suf) lo hi := by
  induction h with
  | nil => intro i hi; cases hi
  | @cons x n pw l hi h1 hl ih =>
    intro i hlt
    cases i with
    | zero =>
      cases hl with
      | nil => exact absurd hlt (by simp)
      | @cons _ n2 pw2 l2 _ h2 hl2 => exact ⟨[], l2, x, n, pw, n2, pw2, rfl, rfl, h1, h2, hl2.le, .cons (by omega) (by rw [← Nat.add_assoc]; exact hl2)⟩
    | succ i =>
      obtain ⟨pre, suf, sa, na, pa, nb, pb, e, hp, g1, g2, g3, hr⟩ := ih i (by simpa using hlt)
      exact ⟨(x, n, pw) :: pre, suf, sa, na, pa, nb, pb, by rw [e]; rfl, by simp [hp], g1, g2, g3, .cons h1 hr⟩
section
variable {prog : Program} {w : World} {A : Around} {E : Value → Shared → Prop} {s : Shared} {vs : List Value} {Z : Nat} {p : Array (Nat × Nat × Nat)}
theorem wpS_set {s' st : SortSt} {Q : PUnit → SortSt → Prop} (h : Q ⟨⟩ s') : wpS (model prog w) A E s (set s' : StateT SortSt Sem PUnit) Q st :=
  wpS_modify (f := fun _ => s') h
theorem lay_all {sa : Nat} : ∀ (l : List (Keyed × Nat)) (a : Array Keyed), (∀ q ∈ l, Good vs q.1) → AllG vs a → AllG vs (l.foldl (fun a (p, j) => a.setIfInBounds (sa + j) p) a) ∧ (l.foldl (fun a (p, j) => a.setIfInBounds (sa + j) p) a).size = a.size
  | [], a, _, h => ⟨h, rfl⟩
  | (q, j) :: l, a, hl, h => by
    obtain ⟨r1, r2⟩ := lay_all (sa := sa) l (a.setIfInBounds (sa + j) q) (fun x hx => hl x (List.mem_cons_of_mem _ hx)) (fun y hy => by
      rcases Array.mem_or_eq_of_mem_setIfInBounds hy with h' | h'
      · exact h y h'
      · exact h' ▸ hl _ (List.mem_cons_self ..))
    exact ⟨r1, r2.trans (by simp)⟩
theorem wpS_mergeAt {i lo : Nat} {st : SortSt} {Q : Bool → SortSt → Prop} (hS : SI vs Z p st) (hr : Runs p.toList 0 lo) (hz : lo ≤ Z) (hi : i + 1 < p.size)
    (hq : ∀ p' st', SI vs Z p' st' → Runs p'.toList 0 lo → Q true st') : wpS (model prog w) A E s (mergeAt' i) Q st := by
  obtain ⟨pre, suf, sa, na, pa, nb, pb, e, hp, g1, g2, g3, hr'⟩ := hr.cut i (by simpa using hi)
  have hpp : p = (pre ++ (sa, na, pa) :: (sa + na, nb, pb) :: suf).toArray := by rw [← e]
  have e1 : p[i]? = some (sa, na, pa) := by rw [hpp]; simp [← hp]
  have e2 : p[i + 1]? = some (sa + na, nb, pb) := by rw [hpp]; simp [← hp]
  have e3 : (p.setIfInBounds i (sa, na + nb, pa)).eraseIdxIfInBounds (i + 1) = (pre ++ (sa, na + nb, pa) :: suf).toArray := by
    rw [hpp]; simp [← hp, List.eraseIdx_append_of_length_le]
  rw [mergeAt'_eq]
  refine wpS_bind (wpS_get ?_)
  rw [hS.pend, e1, e2]
  dsimp only
  rw [e3]
  refine wpS_bind (wpS_set ?_)
  have hS2 : SI vs Z (pre ++ (sa, na + nb, pa) :: suf).toArray (setPending st (pre ++ (sa, na + nb, pa) :: suf).toArray) := ⟨hS.kind, hS.failed, hS.size, hS.all, rfl⟩
  have hr2 : Runs ((pre ++ (sa, na + nb, pa) :: suf).toArray).toList 0 lo := hr'
  generalize (pre ++ (sa, na + nb, pa) :: suf).toArray = p' at hS2 hr2
  have hz2 := hS.size
  refine wpS_bind (wpS_elem hS.all (by omega) fun x gx => wpS_bind (wpS_gallop hS2 gx hS.all (by omega) (by omega) fun k hk => ?_))
  dsimp only
  refine wpS_ite (fun hn => wpS_pure (hq _ _ hS2 hr2)) (fun hn => ?_)
  have hn := ne_of_beq hn
  refine wpS_bind (wpS_elem hS.all (by omega) fun y gy => wpS_bind (wpS_gallop hS2 gy hS.all (by omega) (by omega) fun k2 hk2 => ?_))
  dsimp only
  refine wpS_ite (fun hn2 => wpS_pure (hq _ _ hS2 hr2)) (fun hn2 => ?_)
  have hn2 := ne_of_beq hn2
  have ax := hS.all.extract (i := sa + k) (j := sa + na)
  have ay := hS.all.extract (i := sa + na) (j := sa + na + k2)
  have sx : 1 ≤ ((arrOf st).extract (sa + k) (sa + na)).size := by rw [Array.size_extract]; omega
  have sy : 1 ≤ ((arrOf st).extract (sa + na) (sa + na + k2)).size := by rw [Array.size_extract]; omega
  have fin : ∀ m st', AllG vs m → SI vs Z p' st' → wpS (model prog w) A E s (do
      modify fun s => setArr s (m.toList.zipIdx.foldl (fun a (p, j) => a.setIfInBounds (sa + k + j) p) (arrOf s))
      return (failedOf (← get)).isNone) Q st' := by
    intro m st' hm hS'
    obtain ⟨r1, r2⟩ := lay_all (vs := vs) (sa := sa + k) m.toList.zipIdx (arrOf st') (fun q hq => hm _ (Array.mem_toList_iff.mp (List.fst_mem_of_mem_zipIdx hq))) hS'.all
    refine wpS_bind (wpS_modify (wpS_bind (wpS_get ?_)))
    refine wpS_pure ?_
    have hS3 : SI vs Z p' (setArr st' (m.toList.zipIdx.foldl (fun a (p, j) => a.setIfInBounds (sa + k + j) p) (arrOf st'))) := ⟨hS'.kind, hS'.failed, r2.trans hS'.size, r1, hS'.pend⟩
    have := hq _ _ hS3 hr2
    show Q (failedOf st').isNone _
    rw [hS'.failed]
    exact this
  refine wpS_ite (fun _ => wpS_bind (wpS_mergeLo hS2 ax ay sx sy fin)) (fun _ => wpS_bind (wpS_mergeHi hS2 ax ay sx sy fin))
theorem wpS_binarySortG {lo n ok : Nat} {st : SortSt} {Q : Bool → SortSt → Prop} (hS : SI vs Z p st) (hn : lo + n ≤ Z) (hq : ∀ st', SI vs Z p st' → Q true st') : wpS (model prog w) A E s (binarySort' lo n ok) Q st := by
  rw [binarySort'_eq]
  refine wpS_bind (wpS_mono (wpS_forRange (I := fun k c st' => c.1 = none ∧ SI vs Z p st') (Q := fun c st' => c.1 = none ∧ SI vs Z p st') ?step (fun _ _ h => h) ⟨rfl, hS⟩) ?post)
  case post =>
    rintro ⟨c1, c2⟩ st' ⟨hc, hS'⟩
    dsimp only at hc; subst hc
    exact wpS_pure (hq _ hS')
  case step =>
    rintro k ⟨c1, c2⟩ st' hk0 hk ⟨hc, hS'⟩
    dsimp only at hc; subst hc
    dsimp only
    refine wpS_bind (wpS_mono (wpS_forRange (I := fun x c st'' => SI vs Z p st'' ∧ c.1 = none ∧ c.2.2 ≤ k) (Q := fun c st'' => SI vs Z p st'' ∧ c.1 = none ∧ c.2.2 ≤ k) ?istep (fun _ _ h => h) ⟨hS', rfl, Nat.le_refl _⟩) ?ipost)
    case istep =>
      rintro x ⟨c1, l, r⟩ st'' _ _ ⟨hS2, hc, hr⟩
      dsimp only at hc hr; subst hc
      dsimp only
      refine wpS_ite (fun _ => wpS_pure ⟨hS2, rfl, hr⟩) (fun hlt => ?_)
      refine wpS_bind (wpS_ltA hS2 (by omega) (by omega) fun b => ?_)
      cases b with
      | true => exact wpS_pure ⟨hS2, rfl, by dsimp only; omega⟩
      | false => exact wpS_pure ⟨hS2, rfl, hr⟩
    case ipost =>
      rintro ⟨c1, l, r⟩ st'' ⟨hS2, hc, hr⟩
      dsimp only at hc hr; subst hc
      exact wpS_bind (wpS_down hS2 fun st3 hS3 => wpS_pure ⟨rfl, hS3⟩)
end
end Srt
end Mine
end
section
open PySem PySem.W PyProof.Rows PySem.Calls
set_option maxRecDepth 100000
namespace Mine
namespace Srt
section
variable {prog : Program} {w : World} {A : Around} {E : Value → Shared → Prop} {s : Shared} {vs : List Value} {Z : Nat} {p : Array (Nat × Nat × Nat)}
theorem cr_a {lo x nrem Z : Nat} (hn : lo + nrem ≤ Z) (hx : x < nrem) : lo + x < Z := by omega
theorem cr_b {lo x nrem Z : Nat} (hn : lo + nrem ≤ Z) (hx : x < nrem) : lo + x - 1 < Z := by omega
theorem cr_c {lo x nrem Z : Nat} (hn : lo + nrem ≤ Z) (hx : x ≤ nrem) (h : 1 ≤ x) : lo + x - 1 < Z := by omega
theorem cr_d {lo nrem Z : Nat} (hn : lo + nrem ≤ Z) (h : 1 ≤ nrem) : lo < Z := by omega
theorem wpS_countRunG {lo nrem : Nat} {st : SortSt} {Q : Option Nat → SortSt → Prop} (hS : SI vs Z p st) (hn : lo + nrem ≤ Z) (h1 : 1 ≤ nrem) (hq : ∀ m st', SI vs Z p st' → 1 ≤ m → m ≤ nrem → Q (some m) st') : wpS (model prog w) A E s (countRun' lo nrem) Q st := by
  rw [countRun'_eq]
  refine wpS_bind (wpS_mono (wpS_forRange (I := fun x c st' => SI vs Z p st' ∧ c.1 = none ∧ c.2 = x) (Q := fun c st' => SI vs Z p st' ∧ c.1 = none ∧ 1 ≤ c.2 ∧ c.2 ≤ nrem) ?step ?fin ⟨hS, rfl, rfl⟩) ?post)
  case fin =>
    rintro ⟨c1, n⟩ st' ⟨hS', hc, hx⟩
    dsimp only at hc hx
    exact ⟨hS', hc, by dsimp only; omega, by dsimp only; omega⟩
  case step =>
    rintro x ⟨c1, n⟩ st' hx0 hx ⟨hS', hc, hnx⟩
    dsimp only at hc hnx; subst hc; subst hnx
    refine wpS_bind (wpS_ltA hS' (cr_a hn hx) (cr_b hn hx) fun b => ?_)
    cases b with
    | true => exact wpS_pure ⟨hS', rfl, hx0, Nat.le_of_lt hx⟩
    | false => exact wpS_pure ⟨hS', rfl, rfl⟩
  case post =>
    rintro ⟨c1, n⟩ st' ⟨hS', hc, g1, g2⟩
    dsimp only at hc g1 g2; subst hc
    refine wpS_ite (fun _ => wpS_pure (hq _ _ hS' g1 g2)) (fun hne => ?_)
    have hne := ne_of_beq hne
    refine wpS_ite (fun hgt => ?_) (fun hgt => ?_)
    · refine wpS_bind (wpS_ltA hS' (cr_d hn h1) (cr_c hn g2 g1) fun b => ?_)
      cases b with
      | true => exact wpS_pure (hq _ _ hS' g1 g2)
      | false =>
        refine wpS_neg Bool.false_ne_true ?_
        refine wpS_bind (wpS_rev hS' fun st1 hS1 => ?_)
        refine wpS_bind (wpS_rule ?_)
        refine wpS_bind (wpS_mono (wpS_forRange (I := fun x c st' => SI vs Z p st' ∧ c.1 = none ∧ c.2.1 = x) (Q := fun c st' => SI vs Z p st' ∧ c.1 = none ∧ 1 ≤ c.2.1 ∧ c.2.1 ≤ nrem) ?_ ?_ ⟨hS1, rfl, rfl⟩) ?_)
        · rintro x ⟨c1, n, q⟩ st' hx0 hx ⟨hS', hc, hnx⟩
          dsimp only at hc hnx; subst hc; subst hnx
          refine wpS_bind (wpS_ltA hS' (cr_a hn hx) (cr_b hn hx) fun b => ?_)
          cases b with
          | true =>
            refine wpS_pos rfl ?_
            refine wpS_ite (fun _ => ?_) (fun _ => ?_)
            · exact wpS_bind (wpS_rev hS' fun st2 hS2 => wpS_pure ⟨hS2, rfl, rfl⟩)
            · exact wpS_pure ⟨hS', rfl, rfl⟩
          | false =>
            refine wpS_neg Bool.false_ne_true ?_
            refine wpS_bind (wpS_ltA hS' (cr_b hn hx) (cr_a hn hx) fun b => ?_)
            cases b with
            | true => exact wpS_pure ⟨hS', rfl, Nat.le_trans (Nat.le_add_left ..) hx0, Nat.le_of_lt hx⟩
            | false => exact wpS_pure ⟨hS', rfl, rfl⟩
        · rintro ⟨c1, n, q⟩ st' ⟨hS', hc, hx⟩
          dsimp only at hc hx
          exact ⟨hS', hc, by dsimp only; omega, by dsimp only; omega⟩
        · rintro ⟨c1, n, q⟩ st' ⟨hS', hc, g1, g2⟩
          dsimp only at hc g1 g2; subst hc
          refine wpS_ite (fun _ => ?_) (fun _ => ?_)
          · refine wpS_bind (wpS_rev hS' fun st3 hS3 => ?_)
            refine wpS_bind (wpS_rev hS3 fun st4 hS4 => ?_)
            refine wpS_bind (wpS_mono (wpS_forRange (I := fun x c st' => SI vs Z p st' ∧ c.1 = none ∧ c.2 = x) (Q := fun c st' => SI vs Z p st' ∧ c.1 = none ∧ 1 ≤ c.2 ∧ c.2 ≤ nrem) ?_ ?_ ⟨hS4, rfl, rfl⟩) ?_)
            · rintro x ⟨c1, n⟩ st' hx0 hx ⟨hS', hc, hnx⟩
              dsimp only at hc hnx; subst hc; subst hnx
              refine wpS_bind (wpS_ltA hS' (cr_a hn hx) (cr_b hn hx) fun b => ?_)
              cases b with
              | true => exact wpS_pure ⟨hS', rfl, Nat.le_trans g1 hx0, Nat.le_of_lt hx⟩
              | false => exact wpS_pure ⟨hS', rfl, rfl⟩
            · rintro ⟨c1, n⟩ st' ⟨hS', hc, hx⟩
              dsimp only at hc hx
              exact ⟨hS', hc, by dsimp only; omega, by dsimp only; omega⟩
            · rintro ⟨c1, n⟩ st' ⟨hS', hc, g1, g2⟩
              dsimp only at hc g1 g2; subst hc
              exact wpS_pure (hq _ _ hS' g1 g2)
          · refine wpS_bind (wpS_rev hS' fun st4 hS4 => ?_)
            refine wpS_bind (wpS_mono (wpS_forRange (I := fun x c st' => SI vs Z p st' ∧ c.1 = none ∧ c.2 = x) (Q := fun c st' => SI vs Z p st' ∧ c.1 = none ∧ 1 ≤ c.2 ∧ c.2 ≤ nrem) ?_ ?_ ⟨hS4, rfl, rfl⟩) ?_)
            · rintro x ⟨c1, n⟩ st' hx0 hx ⟨hS', hc, hnx⟩
              dsimp only at hc hnx; subst hc; subst hnx
              refine wpS_bind (wpS_ltA hS' (cr_a hn hx) (cr_b hn hx) fun b => ?_)
              cases b with
              | true => exact wpS_pure ⟨hS', rfl, Nat.le_trans g1 hx0, Nat.le_of_lt hx⟩
              | false => exact wpS_pure ⟨hS', rfl, rfl⟩
            · rintro ⟨c1, n⟩ st' ⟨hS', hc, hx⟩
              dsimp only at hc hx
              exact ⟨hS', hc, by dsimp only; omega, by dsimp only; omega⟩
            · rintro ⟨c1, n⟩ st' ⟨hS', hc, g1, g2⟩
              dsimp only at hc g1 g2; subst hc
              exact wpS_pure (hq _ _ hS' g1 g2)
    · refine wpS_bind (wpS_rule ?_)
      refine wpS_bind (wpS_mono (wpS_forRange (I := fun x c st' => SI vs Z p st' ∧ c.1 = none ∧ c.2.1 = x) (Q := fun c st' => SI vs Z p st' ∧ c.1 = none ∧ 1 ≤ c.2.1 ∧ c.2.1 ≤ nrem) ?_ ?_ ⟨hS', rfl, rfl⟩) ?_)
      · rintro x ⟨c1, n, q⟩ st' hx0 hx ⟨hS', hc, hnx⟩
        dsimp only at hc hnx; subst hc; subst hnx
        refine wpS_bind (wpS_ltA hS' (cr_a hn hx) (cr_b hn hx) fun b => ?_)
        cases b with
        | true =>
          refine wpS_pos rfl ?_
          refine wpS_ite (fun _ => ?_) (fun _ => ?_)
          · exact wpS_bind (wpS_rev hS' fun st2 hS2 => wpS_pure ⟨hS2, rfl, rfl⟩)
          · exact wpS_pure ⟨hS', rfl, rfl⟩
        | false =>
          refine wpS_neg Bool.false_ne_true ?_
          refine wpS_bind (wpS_ltA hS' (cr_b hn hx) (cr_a hn hx) fun b => ?_)
          cases b with
          | true => exact wpS_pure ⟨hS', rfl, Nat.le_trans (Nat.le_add_left ..) hx0, Nat.le_of_lt hx⟩
          | false => exact wpS_pure ⟨hS', rfl, rfl⟩
      · rintro ⟨c1, n, q⟩ st' ⟨hS', hc, hx⟩
        dsimp only at hc hx
        exact ⟨hS', hc, by dsimp only; omega, by dsimp only; omega⟩
      · rintro ⟨c1, n, q⟩ st' ⟨hS', hc, g1, g2⟩
        dsimp only at hc g1 g2; subst hc
        refine wpS_ite (fun _ => ?_) (fun _ => ?_)
        · refine wpS_bind (wpS_rev hS' fun st3 hS3 => ?_)
          refine wpS_bind (wpS_rev hS3 fun st4 hS4 => ?_)
          refine wpS_bind (wpS_mono (wpS_forRange (I := fun x c st' => SI vs Z p st' ∧ c.1 = none ∧ c.2 = x) (Q := fun c st' => SI vs Z p st' ∧ c.1 = none ∧ 1 ≤ c.2 ∧ c.2 ≤ nrem) ?_ ?_ ⟨hS4, rfl, rfl⟩) ?_)
          · rintro x ⟨c1, n⟩ st' hx0 hx ⟨hS', hc, hnx⟩
            dsimp only at hc hnx; subst hc; subst hnx
            refine wpS_bind (wpS_ltA hS' (cr_a hn hx) (cr_b hn hx) fun b => ?_)
            cases b with
            | true => exact wpS_pure ⟨hS', rfl, Nat.le_trans g1 hx0, Nat.le_of_lt hx⟩
            | false => exact wpS_pure ⟨hS', rfl, rfl⟩
          · rintro ⟨c1, n⟩ st' ⟨hS', hc, hx⟩
            dsimp only at hc hx
            exact ⟨hS', hc, by dsimp only; omega, by dsimp only; omega⟩
          · rintro ⟨c1, n⟩ st' ⟨hS', hc, g1, g2⟩
            dsimp only at hc g1 g2; subst hc
            exact wpS_pure (hq _ _ hS' g1 g2)
        · refine wpS_bind (wpS_rev hS' fun st4 hS4 => ?_)
          refine wpS_bind (wpS_mono (wpS_forRange (I := fun x c st' => SI vs Z p st' ∧ c.1 = none ∧ c.2 = x) (Q := fun c st' => SI vs Z p st' ∧ c.1 = none ∧ 1 ≤ c.2 ∧ c.2 ≤ nrem) ?_ ?_ ⟨hS4, rfl, rfl⟩) ?_)
          · rintro x ⟨c1, n⟩ st' hx0 hx ⟨hS', hc, hnx⟩
            dsimp only at hc hnx; subst hc; subst hnx
            refine wpS_bind (wpS_ltA hS' (cr_a hn hx) (cr_b hn hx) fun b => ?_)
            cases b with
            | true => exact wpS_pure ⟨hS', rfl, Nat.le_trans g1 hx0, Nat.le_of_lt hx⟩
            | false => exact wpS_pure ⟨hS', rfl, rfl⟩
          · rintro ⟨c1, n⟩ st' ⟨hS', hc, hx⟩
            dsimp only at hc hx
            exact ⟨hS', hc, by dsimp only; omega, by dsimp only; omega⟩
          · rintro ⟨c1, n⟩ st' ⟨hS', hc, g1, g2⟩
            dsimp only at hc g1 g2; subst hc
            exact wpS_pure (hq _ _ hS' g1 g2)
theorem Runs.mod {p : Array (Nat × Nat × Nat)} {lo hi pw j} (h : Runs p.toList lo hi) : Runs (p.modify j fun (st, len, _) => (st, len, pw)).toList lo hi := by
  rw [Array.toList_modify]; exact h.modify j
theorem Runs.psh {p : Array (Nat × Nat × Nat)} {lo hi n} (h : Runs p.toList lo hi) (hn : 1 ≤ n) : Runs (p.push (hi, n, 0)).toList lo (hi + n) := by
  rw [Array.toList_push]; exact h.snoc hn
/-- what the runs' loops keep -/
inductive RI (vs : List Value) (Z lo : Nat) (st : SortSt) : Prop
  | mk {q : Array (Nat × Nat × Nat)} : SI vs Z q st → Runs q.toList 0 lo → lo ≤ Z → RI vs Z lo st
theorem RI.psh {st : SortSt} {lo n : Nat} (h : RI vs Z lo st) (h1 : 1 ≤ n) (h2 : lo + n ≤ Z) : RI vs Z (lo + n) (setPending st ((pendingOf st).push (lo, n, 0))) := by
  obtain ⟨hS, hr, hz⟩ := h
  exact .mk ⟨hS.kind, hS.failed, hS.size, hS.all, congrArg (·.push (lo, n, 0)) hS.pend⟩ (hr.psh h1) h2
theorem RI.mod {st : SortSt} {lo pw : Nat} (h : RI vs Z lo st) : RI vs Z lo (setPending st ((pendingOf st).modify ((pendingOf st).size - 1) fun (st, len, _) => (st, len, pw))) := by
  obtain ⟨hS, hr, hz⟩ := h
  have e := hS.pend
  refine .mk ⟨hS.kind, hS.failed, hS.size, hS.all, rfl⟩ ?_ hz
  show Runs ((pendingOf st).modify ((pendingOf st).size - 1) fun (st, len, _) => (st, len, pw)).toList 0 lo
  rw [e]
  exact hr.mod
theorem pick_lt {c : Prop} [Decidable c] {n : Nat} (h : 2 ≤ n) : (if c then n - 2 - 1 else n - 2) + 1 < n := by
  split <;> omega
theorem wpS_mergeR {i lo : Nat} {st : SortSt} {Q : Bool → SortSt → Prop} (h : RI vs Z lo st) (hi : i + 1 < (pendingOf st).size) (hq : ∀ st', RI vs Z lo st' → Q true st') : wpS (model prog w) A E s (mergeAt' i) Q st := by
  obtain ⟨hS, hr, hz⟩ := h
  rw [hS.pend] at hi
  exact wpS_mergeAt hS hr hz hi fun p' st' hS' hr' => hq _ (.mk hS' hr' hz)
theorem wpS_sortRunsG {st : SortSt} {Q : Unit → SortSt → Prop} (hS : SI vs Z #[] st) (hq : ∀ st' p, SI vs Z p st' → Q () st') : wpS (model prog w) A E s sortRuns' Q st := by
  rw [sortRuns'_eq]
  refine wpS_bind (wpS_get ?_)
  dsimp only
  rw [hS.size]
  refine wpS_bind (wpS_mono (wpS_forRange (I := fun x c st' => ∃ lo, c = (none, lo) ∧ RI vs Z lo st') (Q := fun c st' => ∃ lo, c = (none, lo) ∧ RI vs Z lo st') ?step (fun _ _ h => h) ⟨0, rfl, .mk hS .nil (Nat.zero_le _)⟩) ?post)
  case step =>
    rintro x c st' _ _ ⟨lo, rfl, hR⟩
    have hR0 := hR
    obtain ⟨hS', hr, hz⟩ := hR
    dsimp only
    refine wpS_ite (fun _ => wpS_pure ⟨_, rfl, hR0⟩) (fun hge => ?_)
    refine wpS_bind (wpS_countRunG hS' (by omega) (by omega) fun n st1 hS1 g1 g2 => ?_)
    dsimp only
    generalize minRun' Z Z 0 = mr
    refine wpS_ite (fun hlt => ?_) (fun hlt => ?_)
    · refine wpS_bind (wpS_rule ?_)
      refine wpS_bind (wpS_binarySortG hS1 (by omega) fun st2 hS2 => ?_)
      have hR2 : RI vs Z lo st2 := .mk hS2 hr hz
      rw [if_neg (by exact Bool.false_ne_true)]
      refine wpS_bind (wpS_get ?_)
      split
      · rename_i s1 n1 pw1 hback
        refine wpS_bind (wpS_mono (wpS_forRange (I := fun x c st' => c.1 = none ∧ RI vs Z lo st') (Q := fun c st' => c.1 = none ∧ RI vs Z lo st') ?_ (fun _ _ h => h) ⟨rfl, hR2⟩) ?_)
        · rintro x ⟨c1, c2⟩ st' _ _ ⟨hc, hR'⟩
          dsimp only at hc; subst hc
          refine wpS_bind (wpS_get ?_)
          by_cases h2 : (pendingOf st').size > 1
          · rw [if_pos h2, Array.getElem?_eq_getElem (by omega)]
            dsimp only
            refine wpS_ite (fun _ => wpS_pure ⟨rfl, hR'⟩) (fun _ => ?_)
            refine wpS_bind (wpS_mergeR hR' (by omega) fun st2 hR2 => ?_)
            exact wpS_pure ⟨rfl, hR2⟩
          · rw [if_neg h2]
            exact wpS_pure ⟨rfl, hR'⟩
        · rintro ⟨c1, c2⟩ st' ⟨hc, hR'⟩
          dsimp only at hc; subst hc
          exact wpS_bind (wpS_modify (wpS_bind (wpS_modify (wpS_pure ⟨_, rfl, hR'.mod.psh (by omega) (by omega)⟩))))
      · exact wpS_bind (wpS_modify (wpS_pure ⟨_, rfl, RI.psh hR2 (by omega) (by omega)⟩))
    · have hR2 : RI vs Z lo st1 := .mk hS1 hr hz
      refine wpS_bind (wpS_get ?_)
      split
      · rename_i s1 n1 pw1 hback
        refine wpS_bind (wpS_mono (wpS_forRange (I := fun x c st' => c.1 = none ∧ RI vs Z lo st') (Q := fun c st' => c.1 = none ∧ RI vs Z lo st') ?_ (fun _ _ h => h) ⟨rfl, hR2⟩) ?_)
        · rintro x ⟨c1, c2⟩ st' _ _ ⟨hc, hR'⟩
          dsimp only at hc; subst hc
          refine wpS_bind (wpS_get ?_)
          by_cases h2 : (pendingOf st').size > 1
          · rw [if_pos h2, Array.getElem?_eq_getElem (by omega)]
            dsimp only
            refine wpS_ite (fun _ => wpS_pure ⟨rfl, hR'⟩) (fun _ => ?_)
            refine wpS_bind (wpS_mergeR hR' (by omega) fun st2 hR2 => ?_)
            exact wpS_pure ⟨rfl, hR2⟩
          · rw [if_neg h2]
            exact wpS_pure ⟨rfl, hR'⟩
        · rintro ⟨c1, c2⟩ st' ⟨hc, hR'⟩
          dsimp only at hc; subst hc
          exact wpS_bind (wpS_modify (wpS_bind (wpS_modify (wpS_pure ⟨_, rfl, hR'.mod.psh (by omega) (by omega)⟩))))
      · exact wpS_bind (wpS_modify (wpS_pure ⟨_, rfl, RI.psh hR2 (by omega) (by omega)⟩))
  case post =>
    rintro c st' ⟨lo, rfl, hR⟩
    refine wpS_bind (wpS_mono (wpS_forRange (I := fun x c st' => c.1 = none ∧ RI vs Z lo st') (Q := fun c st' => c.1 = none ∧ RI vs Z lo st') ?_ (fun _ _ h => h) ⟨rfl, hR⟩) ?_)
    · rintro x ⟨c1, c2⟩ st' _ _ ⟨hc, hR'⟩
      dsimp only at hc; subst hc
      refine wpS_bind (wpS_get ?_)
      refine wpS_ite (fun _ => wpS_pure ⟨rfl, hR'⟩) (fun h2 => ?_)
      refine wpS_bind (wpS_mergeR hR' (pick_lt (by omega)) fun st2 hR2 => ?_)
      exact wpS_pure ⟨rfl, hR2⟩
    · rintro ⟨c1, c2⟩ st' ⟨hc, hR'⟩
      dsimp only at hc; subst hc
      obtain ⟨hS', _, _⟩ := hR'
      exact wpS_pure (hq _ _ hS')
end
end Srt
end Mine
end
section
open PySem PySem.W PyProof.Rows PySem.Calls
set_option maxRecDepth 100000
namespace Mine
namespace Srt
section
variable {prog : Program} {w : World} {A : Around} {E : Value → Shared → Prop} {s : Shared}
theorem ints_mem : ∀ {vs : List Value} {ns : List Int}, IntsAre vs ns → ∀ v ∈ vs, ∃ i t, v = .int i t
  | _, _, .nil, v, hv => by cases hv
  | _, _, .cons i t r, v, hv => by
    rcases List.mem_cons.mp hv with rfl | hv
    · exact ⟨_, _, rfl⟩
    · exact ints_mem r v hv
theorem zip_self : ∀ {l : List Value} {x : Value × Value}, x ∈ l.zip l → x.1 = x.2 ∧ x.1 ∈ l
  | [], x, h => by cases h
  | a :: l, x, h => by
    rw [List.zip_cons_cons] at h
    rcases List.mem_cons.mp h with rfl | h
    · exact ⟨rfl, List.mem_cons_self ..⟩
    · exact ⟨(zip_self h).1, List.mem_cons_of_mem _ (zip_self h).2⟩
theorem pairs_all {vs : List Value} {ns : List Int} (hI : IntsAre vs ns) : AllG vs (vs.toArray.zip vs.toArray) := fun x hx => by
  have hx' : x ∈ vs.zip vs := by
    have := Array.mem_toList_iff.mpr hx
    rwa [show (vs.toArray.zip vs.toArray).toList = vs.zip vs from pairsOf_toList vs] at this
  exact ⟨(zip_self hx').1, (zip_self hx').2, ints_mem hI _ (zip_self hx').2⟩
theorem list_sortG {a : Addr} {vs : List Value} {ns : List Int} {n : Nat} {P : Fin → Shared → Prop} (ho : s.heap.get? a = some (seqObj "list" vs.toArray n))
    (hI : IntsAre vs ns) (hz : vs.length ≤ 1000)
    (h : ∀ (out : Array Value), (∀ v ∈ out, v ∈ vs) → out.size = vs.length → P (.done (.ret .none)) { s with heap := sortedHeap s.heap a vs out }) :
    wpAny (model prog w) A (Builtin.«list.sort» ⟨[.ref a], []⟩) P E s := by
  rw [list_sort_plain]
  have ha : a < s.heap.objs.size := Heap.lt_size ho
  refine wpAny_bind (listItems_at ho rfl ?_)
  refine wpAny_bind (listUpdate_at ho rfl ?_)
  obtain ⟨e1, ho1⟩ : ∃ e1, (s.heap.update a (Obj.mapSeq fun _ => #[])).get? a = some (seqObj "list" #[] e1) := ⟨_, get?_update_seq ho (fun _ => #[])⟩
  refine wpAny_bind (seqEpoch_at ho1 rfl ?_)
  refine wpAny_bind (wpAny_newTuple ?_)
  refine wpAny_bind (wpAny_newList ?_)
  refine wpAny_holding ?_
  have ho6 : (((s.heap.update a (Obj.mapSeq fun _ => #[])).push (seqObj "tuple" vs.toArray 0)).push (seqObj "list" #[] 0)).get? a = some (seqObj "list" #[] e1) := by
    rw [Heap.get?_push_ne _ _ _ (by rw [size_push', Heap.size_update]; exact Nat.ne_of_lt (Nat.lt_succ_of_lt ha)), Heap.get?_push_ne _ _ _ (by rw [Heap.size_update]; exact Nat.ne_of_lt ha)]
    exact ho1
  show wpAny (model prog w) A _ P E { s with heap := ((s.heap.update a (Obj.mapSeq fun _ => #[])).push (seqObj "tuple" vs.toArray 0)).push (seqObj "list" #[] 0) }
  dsimp only
  have hsz : vs.toArray.size = vs.length := by simp
  have fin : ∀ (st' : SortSt) p, SI vs vs.length p st' → P (.done (.ret .none)) { s with heap := sortedHeap s.heap a vs ((arrOf st').map (·.2)) } := by
    intro st' p hS
    refine h _ (fun v hv => ?_) ?_
    · obtain ⟨x, hx, e⟩ := Array.mem_map.mp hv
      have := hS.all x hx
      rw [← e, ← this.1]; exact this.2.1
    · rw [Array.size_map]; exact hS.size
  by_cases h2 : vs.toArray.size < 2
  · rw [if_pos h2, if_pos h2]
    refine wpAny_bind (wpAny_pure ?_)
    rw [StateT.run_pure]
    refine wpAny_bind (wpAny_pure ?_)
    dsimp only
    refine wpAny_bind (seqEpoch_at ho6 rfl ?_)
    refine wpAny_bind (listUpdate_at ho6 rfl ?_ (hsz2 := by rw [Array.size_map]; show (pairsOf vs).size ≤ _; rw [pairsOf_size, sizeLine_eq]; omega))
    simp only [bne_self_eq_false, Bool.false_eq_true, if_false]
    refine wpAny_pure (h _ (fun v hv => ?_) ?_)
    · obtain ⟨x, hx, e⟩ := Array.mem_map.mp hv
      have := pairs_all hI x hx
      rw [← e, ← this.1]; exact this.2.1
    · rw [Array.size_map]; exact pairsOf_size vs
  · rw [if_neg h2, if_neg h2]
    obtain ⟨v₁, v₂, rest, rfl⟩ : ∃ v₁ v₂ rest, vs = v₁ :: v₂ :: rest := by
      match vs, hsz, h2 with
      | [], _, h2 => simp at h2
      | [_], _, h2 => simp at h2
      | v₁ :: v₂ :: rest, _, _ => exact ⟨v₁, v₂, rest, rfl⟩
    rw [keyKind_ints hI]
    refine wpAny_bind (wpAny_pure ?_)
    refine wpAny_bind (wpAny_mono (wpS_sortRunsG (vs := v₁ :: v₂ :: rest) (Z := (v₁ :: v₂ :: rest).length) (st := SortSt.mk' oneType' ((v₁ :: v₂ :: rest).toArray.zip (v₁ :: v₂ :: rest).toArray) #[] 7 none)
      (Q := fun _ st' => ∃ p, SI (v₁ :: v₂ :: rest) (v₁ :: v₂ :: rest).length p st')
      ⟨rfl, rfl, pairsOf_size _, pairs_all hI, rfl⟩ fun st' p hS => ⟨p, hS⟩) ?_ fun _ _ e => e)
    rintro ⟨⟨⟩, st'⟩ s' ⟨rfl, p, hS⟩
    dsimp only
    refine wpAny_bind (seqEpoch_at ho6 rfl ?_)
    refine wpAny_bind (listUpdate_at ho6 rfl ?_ (hsz2 := by refine Nat.le_trans (Nat.le_of_eq ((Array.size_map ..).trans hS.size)) ?_; rw [sizeLine_eq]; omega))
    rw [hS.failed]
    simp only [bne_self_eq_false, Bool.false_eq_true, if_false]
    exact wpAny_pure (fin st' p hS)
theorem sortedG {l : Addr} {vs : List Value} {ns : List Int} {Q : Value → Shared → Prop} (hl : s.heap.IsList l vs.toArray) (hI : IntsAre vs ns) (hz : vs.length ≤ 1000)
    (h : ∀ (out : Array Value), (∀ v ∈ out, v ∈ vs) → out.size = vs.length → Q (.ref (s.heap.objs.size + 1)) { s with heap := sortedAll s.heap vs out }) :
    wpAny (model prog w) A (call (.builtin "sorted") [.ref l]) Q E s := by
  refine Calls.call_function_entry kind_sorted plain_sorted entry_sorted (args_sorted1 _) ?_
  unfold Builtin.«sorted»
  refine wpAny_bind (m := checkCount "sorted" 1 1 _) (wpAny_pure ?_)
  refine wpAny_bind (collect_list hl ?_)
  refine wpAny_bind (wpAny_newList ?_)
  have hsz : ((s.heap.push (seqObj "list" #[] 0)).update s.heap.objs.size (Obj.mapSeq (· ++ vs.toArray))).objs.size = s.heap.objs.size + 1 := by
    rw [Heap.size_update, size_push']
  have hoL : (((s.heap.push (seqObj "list" #[] 0)).update s.heap.objs.size (Obj.mapSeq (· ++ vs.toArray))).push (seqObj "list" vs.toArray 0)).get? (s.heap.objs.size + 1) = some (seqObj "list" vs.toArray 0) := by
    rw [← hsz]; exact Heap.get?_push_size _ rfl
  show wpAny _ _ _ _ _ { s with heap := ((s.heap.push (seqObj "list" #[] 0)).update s.heap.objs.size (Obj.mapSeq (· ++ vs.toArray))).push (seqObj "list" vs.toArray 0) }
  rw [hsz]
  refine wpAny_bind (wpAny_holding (wpAny_call_entry slot_list_sort ⟨_, hoL, rfl⟩ entry_list_sort (list_sortG hoL hI hz fun out a1 a2 => ⟨_, rfl, ?_⟩) (args_list_sort _)))
  exact wpAny_pure ⟨_, rfl, h out a1 a2⟩
end
end Srt
end Mine
end
section
open PySem PySem.W PyProof.Rows PySem.Calls
set_option maxRecDepth 100000
namespace Mine
namespace L01
section
variable {G : Gr} {n : Nat}
theorem num_mem {ok : Addr → Prop} {h : Heap} : ∀ {vs : List Value} {cs : List Nat}, RepAll ok h vs (nums cs) → ∀ v ∈ vs, ∃ c ∈ cs, ∃ t, v = .int (c : Nat) t
  | _, [], r, v, hv => by cases r; cases hv
  | _, c :: cs, r, v, hv => by
    cases r with | cons a r =>
    cases a with | int i t =>
    rcases List.mem_cons.mp hv with rfl | hv
    · exact ⟨c, List.mem_cons_self .., t, rfl⟩
    · obtain ⟨c, m, t, e⟩ := num_mem r v hv
      exact ⟨c, List.mem_cons_of_mem _ m, t, e⟩
theorem num_back {ok : Addr → Prop} {h : Heap} {cs : List Nat} : ∀ {vs : List Value}, (∀ v ∈ vs, ∃ c ∈ cs, ∃ t, v = .int (c : Nat) t) → ∃ ds : List Nat, RepAll ok h vs (nums ds) ∧ (∀ x ∈ ds, x ∈ cs) ∧ ds.length = vs.length
  | [], _ => ⟨[], .nil, (fun _ h => nomatch h), rfl⟩
  | v :: vs, hv => by
    obtain ⟨ds, r, m, e⟩ := num_back (ok := ok) (h := h) (vs := vs) fun v h => hv v (List.mem_cons_of_mem _ h)
    obtain ⟨c, hc, t, rfl⟩ := hv v (List.mem_cons_self ..)
    exact ⟨c :: ds, .cons (.int _ _) r, fun x hx => (List.mem_cons.mp hx).elim (fun e => e ▸ hc) (m x), congrArg (· + 1) e⟩
theorem nums_eq : ∀ cs : List Nat, nums cs = (cs.map fun c : Nat => (c : Int)).map .int
  | [] => rfl
  | c :: cs => congrArg (D.int (c : Nat) :: ·) (nums_eq cs)
theorem sorted_ok : SortedE G n := fun cs hc ok A s E vs r k f rv => by
  cases rv with | cons a rs =>
  cases rs
  cases a with | @list a vs _ o l rs =>
  have hlen := rs.length
  rw [show (nums cs).length = cs.length from List.length_map ..] at hlen
  have hI := ints_of (ns := cs.map fun c : Nat => (c : Int)) (by rw [← nums_eq]; exact rs)
  refine Srt.sortedG l hI (by omega) fun out hm ho => ?_
  obtain ⟨e, he⟩ := sortedAll_at s.heap vs out
  have hk : ∀ b o, s.heap.get? b = some o → (sortedAll s.heap vs out).get? b = some o := fun b o hb => sortedAll_old hb
  obtain ⟨ds, rd, md, ld⟩ := num_back (ok := ok) (h := sortedAll s.heap vs out) (cs := cs) (vs := out.toList) fun v hv => num_mem rs v (hm v (Array.mem_toList_iff.mp hv))
  refine ⟨.heap hk, _, ⟨ds, rfl, md, by rw [ld, Array.length_toList]; omega⟩, ?_⟩
  refine .list (vs := out.toList) (f _ ?_) ⟨_, he, rfl, _, by rfl⟩ rd
  cases q : s.heap.get? (s.heap.objs.size + 1) with
  | none => rfl
  | some o => exact absurd (Heap.lt_size q) (Nat.not_lt.mpr (Nat.le_succ _))
end
end L01
end Mine
end
section
open PySem PySem.W PyProof.Rows
set_option maxRecDepth 100000 in
set_option maxHeartbeats 8000000 in
theorem PySem.Challenge.cw_dm0097_01_holds : PySem.Challenge.rw_dm0097_01.Holds := by
  w_on; o_law; k_head; (case hw => w_witness2)
  k_fill
  intro w s₀ s₁ mg mb G Y fa o pm cd doc dV kV ho hd hcd hD hmg hg args vals as hpre hlay hrd hwl hlo
  refine Ground.open G ?_
  intro T B D TE TW
  clear hd hcd hD
  wrow_args hpre hlay hrd hwl hlo
  rename_i hL _ _ _ hI _ hc _
  refine Mine.law_fin T hL hI hg (Mine.L01.law_call (n := 0) ?tp Mine.L01.sorted_ok ?len (F := Mine.fnAt_law T hmg 5 (by kernel_rfl))) (by decide) (by intro _; rfl) ?post
  case post => wrow_post
  case len => omega
  case tp => exact {
    len := Mine.free_of T _ (by decide +kernel)
    chr := Mine.free_of T _ (by decide +kernel)
    list := Mine.free_of T _ (by decide +kernel)
    range := Mine.free_of T _ (by decide +kernel)
    sorted := Mine.free_of T _ (by decide +kernel)
    zip := Mine.free_of T _ (by decide +kernel)
    sanitize := Mine.fnAt_of T 0 (by kernel_rfl)
    point := Mine.fnAt_of T 1 (by kernel_rfl)
    octets := Mine.fnAt_of T 2 (by kernel_rfl)
    stray := Mine.fnAt_of T 3 (by kernel_rfl)
    reading := Mine.fnAt_of T 4 (by kernel_rfl) }
end
