import PyProof.Rows.All
import Wide.All
import OpenK.AllK
import Wide.FinOn
import PySem.Challenge.RW_dm0097_07
set_option Elab.async false
set_option linter.unusedVariables false
set_option linter.unusedSimpArgs false
section
open PySem PySem.W PyProof.Rows
set_option maxRecDepth 100000
namespace Mine
/-- deep data: what a value says, all the way down -/
inductive D where
  | none
  | bool (b : Bool)
  | int (i : Int)
  | str (x : Str)
  | bytes (b : Array UInt8)
  | raw (v : Value)
  | tuple (ds : List D)
  | list (ds : List D)
  | slice (l u st : D)
  | rng (lo hi : Int)
mutual
inductive Rep (ok : Addr → Prop) (h : Heap) : Value → D → Prop
  | none : Rep ok h .none .none
  | bool (b : Bool) : Rep ok h (.bool b) (.bool b)
  | int (i : Int) (t : Tok) : Rep ok h (.int i t) (.int i)
  | str (x : Str) (t : Tok) : Rep ok h (.str x t) (.str x)
  | bytes (b : Array UInt8) (t : Tok) : Rep ok h (.bytes b t) (.bytes b)
  | raw (v : Value) : Rep ok h v (.raw v)
  | tuple {a : Addr} {vs : List Value} {ds : List D} : ok a → IsTup h a vs.toArray → RepAll ok h vs ds → Rep ok h (.ref a) (.tuple ds)
  | list {a : Addr} {vs : List Value} {ds : List D} : ok a → h.IsList a vs.toArray → RepAll ok h vs ds → Rep ok h (.ref a) (.list ds)
  | slice {a : Addr} {o : Obj} {v1 v2 v3 : Value} {l u st : D} : ok a → h.get? a = some o → o.cls = .type "slice" → o.data = .fields #[v1, v2, v3] → Rep ok h v1 l → Rep ok h v2 u → Rep ok h v3 st → Rep ok h (.ref a) (.slice l u st)
  | rng {a : Addr} {lo hi : Int} {t1 t2 t3 : Tok} : ok a → IsRange h a lo hi 1 t1 t2 t3 → Rep ok h (.ref a) (.rng lo hi)
inductive RepAll (ok : Addr → Prop) (h : Heap) : List Value → List D → Prop
  | nil : RepAll ok h [] []
  | cons {v : Value} {vs : List Value} {d : D} {ds : List D} : Rep ok h v d → RepAll ok h vs ds → RepAll ok h (v :: vs) (d :: ds)
end
def isDict : Data → Bool
  | .dict .. => true
  | _ => false
/-- what stood stands: plain objects to the sign, namespaces up to their marks -/
def Ext (base h h' : Heap) : Prop := ∀ b o, h.get? b = some o → ∃ o', h'.get? b = some o' ∧ o'.cls = o.cls ∧ o'.data = o.data ∧ ((base.get? b).isSome = true ∨ isDict o.data = false → o' = o)
theorem Ext.of_stays {base h h' : Heap} (k : ∀ b o, h.get? b = some o → h'.get? b = some o) : Ext base h h' := fun b o e => ⟨o, k b o e, rfl, rfl, fun _ => rfl⟩
theorem Ext.refl {base h : Heap} : Ext base h h := .of_stays fun _ _ e => e
theorem Ext.trans {base h₁ h₂ h₃ : Heap} (x : Ext base h₁ h₂) (y : Ext base h₂ h₃) : Ext base h₁ h₃ := by
  intro b o e
  obtain ⟨o', e', c', d', k'⟩ := x b o e
  obtain ⟨o'', e'', c'', d'', k''⟩ := y b o' e'
  refine ⟨o'', e'', c''.trans c', d''.trans d', fun q => ?_⟩
  have := k' q; subst this
  exact k'' q
theorem Ext.base {base h h' : Heap} (x : Ext base h h') (k : base.StaysIn h) : base.StaysIn h' := by
  intro b o e
  obtain ⟨o', e', _, _, k'⟩ := x b o (k b o e)
  rw [e', k' (.inl (by rw [e]; rfl))]
theorem Ext.list {base h h' : Heap} {a : Addr} {items : Array Value} (x : Ext base h h') (l : h.IsList a items) : h'.IsList a items := by
  obtain ⟨o, e, c, n, d⟩ := l
  obtain ⟨o', e', c', d', _⟩ := x a o e
  exact ⟨o', e', c'.trans c, n, d'.trans d⟩
theorem Ext.tup {base h h' : Heap} {a : Addr} {items : Array Value} (x : Ext base h h') (l : IsTup h a items) : IsTup h' a items := by
  obtain ⟨o, e, c, n, d⟩ := l
  obtain ⟨o', e', c', d', _⟩ := x a o e
  exact ⟨o', e', c'.trans c, n, d'.trans d⟩
theorem Ext.ns {base h h' : Heap} {a : Addr} {m : Str → Option Value} (x : Ext base h h') (l : h.Ns a m) : h'.Ns a m := by
  obtain ⟨o, es, ep, e, d, r⟩ := l
  obtain ⟨o', e', _, d', _⟩ := x a o e
  exact ⟨o', es, ep, e', d'.trans d, r⟩
theorem Ext.cell {base h h' : Heap} {a : Addr} {v : Option Value} (x : Ext base h h') (l : h.IsCell a v) : h'.IsCell a v := by
  obtain ⟨o, e, d⟩ := l
  obtain ⟨o', e', _, d', _⟩ := x a o e
  exact ⟨o', e', d'.trans d⟩
theorem Ext.none {base h h' : Heap} {b : Addr} (x : Ext base h h') (e : h'.get? b = none) : h.get? b = none := by
  cases q : h.get? b with
  | none => rfl
  | some o => obtain ⟨o', e', _⟩ := x b o q; rw [e'] at e; cases e
mutual
theorem Rep.ext {ok ok' : Addr → Prop} {base h h' : Heap} (x : Ext base h h') (k : ∀ a, ok a → (h.get? a).isSome = true → ok' a) : ∀ {v : Value} {d : D}, Rep ok h v d → Rep ok' h' v d
  | _, _, .none => .none
  | _, _, .bool b => .bool b
  | _, _, .int i t => .int i t
  | _, _, .str y t => .str y t
  | _, _, .bytes b t => .bytes b t
  | _, _, .raw v => .raw v
  | _, _, .tuple o l r => .tuple (k _ o (by obtain ⟨_, e, _⟩ := l; rw [e]; rfl)) (x.tup l) (RepAll.ext x k r)
  | _, _, .list o l r => .list (k _ o (by obtain ⟨_, e, _⟩ := l; rw [e]; rfl)) (x.list l) (RepAll.ext x k r)
  | _, _, .slice o e c d p q r => .slice (k _ o (by rw [e]; rfl)) (by
      obtain ⟨o', e', c', d', k'⟩ := x _ _ e
      rw [k' (.inr (by rw [d]; rfl))] at e'; exact e') c d (Rep.ext x k p) (Rep.ext x k q) (Rep.ext x k r)
  | _, _, .rng o e => .rng (k _ o (by unfold IsRange at e; rw [e]; rfl)) (by
      unfold IsRange at e ⊢
      obtain ⟨o', e', c', d', k'⟩ := x _ _ e
      rw [k' (.inr rfl)] at e'; exact e')
theorem RepAll.ext {ok ok' : Addr → Prop} {base h h' : Heap} (x : Ext base h h') (k : ∀ a, ok a → (h.get? a).isSome = true → ok' a) : ∀ {vs : List Value} {ds : List D}, RepAll ok h vs ds → RepAll ok' h' vs ds
  | _, _, .nil => .nil
  | _, _, .cons a r => .cons (Rep.ext x k a) (RepAll.ext x k r)
end
/-- an object that may stand in a tree -/
inductive IsNode (h : Heap) (a : Addr) : Prop
  | list {vs : Array Value} : h.IsList a vs → IsNode h a
  | tup {vs : Array Value} : IsTup h a vs → IsNode h a
  | slice {o : Obj} {v1 v2 v3 : Value} : h.get? a = some o → o.cls = .type "slice" → o.data = .fields #[v1, v2, v3] → IsNode h a
  | rng {lo hi : Int} {t1 t2 t3 : Tok} : IsRange h a lo hi 1 t1 t2 t3 → IsNode h a
/-- all but the objects W stands -/
def ExtBut (base : Heap) (W : Addr → Prop) (h h' : Heap) : Prop := ∀ b o, ¬ W b → h.get? b = some o → ∃ o', h'.get? b = some o' ∧ o'.cls = o.cls ∧ o'.data = o.data ∧ ((base.get? b).isSome = true ∨ isDict o.data = false → o' = o)
mutual
theorem Rep.extBut {ok ok' : Addr → Prop} {base h h' : Heap} {W : Addr → Prop} (x : ExtBut base W h h') (n : ∀ a, ok a → IsNode h a → ¬ W a) (k : ∀ a, ok a → (h.get? a).isSome = true → ok' a) : ∀ {v : Value} {d : D}, Rep ok h v d → Rep ok' h' v d
  | _, _, .none => .none
  | _, _, .bool b => .bool b
  | _, _, .int i t => .int i t
  | _, _, .str y t => .str y t
  | _, _, .bytes b t => .bytes b t
  | _, _, .raw v => .raw v
  | _, _, .tuple o l r => .tuple (k _ o (by obtain ⟨_, e, _⟩ := l; rw [e]; rfl)) (by
      have q := n _ o (.tup l)
      obtain ⟨o₁, e, c, m, d⟩ := l
      obtain ⟨o', e', c', d', _⟩ := x _ o₁ q e
      exact ⟨o', e', c'.trans c, m, d'.trans d⟩) (RepAll.extBut x n k r)
  | _, _, .list o l r => .list (k _ o (by obtain ⟨_, e, _⟩ := l; rw [e]; rfl)) (by
      have q := n _ o (.list l)
      obtain ⟨o₁, e, c, m, d⟩ := l
      obtain ⟨o', e', c', d', _⟩ := x _ o₁ q e
      exact ⟨o', e', c'.trans c, m, d'.trans d⟩) (RepAll.extBut x n k r)
  | _, _, .slice o e c d p q r => .slice (k _ o (by rw [e]; rfl)) (by
      obtain ⟨o', e', c', d', k'⟩ := x _ _ (n _ o (.slice e c d)) e
      rw [k' (.inr (by rw [d]; rfl))] at e'; exact e') c d (Rep.extBut x n k p) (Rep.extBut x n k q) (Rep.extBut x n k r)
  | _, _, .rng o e => .rng (k _ o (by unfold IsRange at e; rw [e]; rfl)) (by
      unfold IsRange at e ⊢
      obtain ⟨o', e', c', d', k'⟩ := x _ _ (n _ o (.rng e)) e
      rw [k' (.inr rfl)] at e'; exact e')
theorem RepAll.extBut {ok ok' : Addr → Prop} {base h h' : Heap} {W : Addr → Prop} (x : ExtBut base W h h') (n : ∀ a, ok a → IsNode h a → ¬ W a) (k : ∀ a, ok a → (h.get? a).isSome = true → ok' a) : ∀ {vs : List Value} {ds : List D}, RepAll ok h vs ds → RepAll ok' h' vs ds
  | _, _, .nil => .nil
  | _, _, .cons a r => .cons (Rep.extBut x n k a) (RepAll.extBut x n k r)
end
theorem RepAll.length {ok : Addr → Prop} {h : Heap} {vs : List Value} {ds : List D} (r : RepAll ok h vs ds) : vs.length = ds.length := by
  induction vs generalizing ds with
  | nil => cases r; rfl
  | cons v vs ih => cases r with | cons _ r => rw [List.length_cons, List.length_cons, ih r]
theorem RepAll.append {ok : Addr → Prop} {h : Heap} {vs ws : List Value} {ds es : List D} (r : RepAll ok h vs ds) (k : RepAll ok h ws es) : RepAll ok h (vs ++ ws) (ds ++ es) := by
  induction vs generalizing ds with
  | nil => cases r; exact k
  | cons v vs ih => cases r with | cons a r => exact .cons a (ih r)
theorem RepAll.get {ok : Addr → Prop} {h : Heap} {vs : List Value} {ds : List D} (r : RepAll ok h vs ds) {k : Nat} {d : D} (hk : ds[k]? = some d) : ∃ v, vs[k]? = some v ∧ Rep ok h v d := by
  induction vs generalizing ds k with
  | nil => cases r; cases hk
  | cons v vs ih =>
    cases r with
    | cons a r =>
      cases k with
      | zero => cases hk; exact ⟨v, rfl, a⟩
      | succ k => exact ih r hk
end Mine
end
section
open PySem PySem.W PyProof.Rows
set_option maxRecDepth 100000
namespace Mine
/-- the ground: what stands behind the top -/
structure Gr where
  prog : Program
  w : World
  base : Heap
  mg : Str → Option Value
  mb : Str → Option Value
  g : base.Ns mainGlobals mg
  b : base.Ns builtinsNs mb
  bb : ∀ x : Str, x ≠ "__name__" → mb x = bootBuiltins x
  nolimit : base.NoLimit
abbrev Gr.M (G : Gr) : Model := model G.prog G.w
/-- room for n more calls -/
structure Room (n : Nat) (A : Around) : Prop where
  handled : A.handled = none
  depth : A.depth + n < recursionLimit
  units : A.units + 30 * n + 500 < cLine
theorem Room.deeper {n : Nat} {A : Around} {env : Env} (r : Room (n + 1) A) : Room n (A.deeper env) := ⟨r.handled, by have := r.depth; show A.depth + 1 + n < _; omega, by have := r.units; show A.units + 3 + 30 * n + 500 < _; omega⟩
/-- old generators stay as they are -/
structure GensKeep (g g' : Array GenState) : Prop where
  keep : ∀ (i : Nat) (x : GenState), g[i]? = some x → g'[i]? = some x
  bare : (∀ x ∈ g, x.bare = true) → ∀ x ∈ g', x.bare = true
theorem GensKeep.refl {g : Array GenState} : GensKeep g g := ⟨fun _ _ h => h, fun h => h⟩
theorem GensKeep.trans {a b c : Array GenState} (x : GensKeep a b) (y : GensKeep b c) : GensKeep a c := ⟨fun i z h => y.keep i z (x.keep i z h), fun h => y.bare (x.bare h)⟩
/-- a step that only adds -/
structure Stp (base : Heap) (s s' : Shared) : Prop where
  ext : Ext base s.heap s'.heap
  os : s'.os = s.os
  gens : GensKeep s.gens s'.gens
theorem Stp.refl {base : Heap} {s : Shared} : Stp base s s := ⟨.refl, rfl, .refl⟩
theorem Stp.trans {base : Heap} {a b c : Shared} (x : Stp base a b) (y : Stp base b c) : Stp base a c := ⟨x.ext.trans y.ext, y.os.trans x.os, x.gens.trans y.gens⟩
theorem Stp.heap {base : Heap} {s : Shared} {h' : Heap} {tk : Nat} (k : ∀ b o, s.heap.get? b = some o → h'.get? b = some o) : Stp base s { s with heap := h', toks := tk } := ⟨.of_stays k, rfl, .refl⟩
theorem Stp.tok {base : Heap} {s : Shared} {tk : Nat} : Stp base s { s with toks := tk } := ⟨.refl, rfl, .refl⟩
theorem Stp.push {base : Heap} {s : Shared} {o : Obj} {tk : Nat} : Stp base s { s with heap := s.heap.push o, toks := tk } := .heap fun _ _ e => Heap.get?_push_of_some _ e
def FreshOk (ok : Addr → Prop) (h : Heap) : Prop := ∀ b, h.get? b = none → ok b
theorem FreshOk.stp {ok : Addr → Prop} {base h h' : Heap} (f : FreshOk ok h) (x : Ext base h h') : FreshOk ok h' := fun b e => f b (x.none e)
theorem Rep.stp {ok : Addr → Prop} {base : Heap} {s s' : Shared} {v : Value} {d : D} (r : Rep ok s.heap v d) (x : Stp base s s') : Rep ok s'.heap v d := r.ext x.ext fun _ h _ => h
theorem RepAll.stp {ok : Addr → Prop} {base : Heap} {s s' : Shared} {vs : List Value} {ds : List D} (r : RepAll ok s.heap vs ds) (x : Stp base s s') : RepAll ok s'.heap vs ds := r.ext x.ext fun _ h _ => h
theorem Rep.weak {ok ok' : Addr → Prop} {h : Heap} {v : Value} {d : D} (r : Rep ok h v d) (k : ∀ a, ok a → ok' a) : Rep ok' h v d := r.ext (base := h) .refl fun a h _ => k a h
theorem RepAll.weak {ok ok' : Addr → Prop} {h : Heap} {vs : List Value} {ds : List D} (r : RepAll ok h vs ds) (k : ∀ a, ok a → ok' a) : RepAll ok' h vs ds := r.ext (base := h) .refl fun a h _ => k a h
inductive Slot where
  | val (d : D)
  | own (a : Addr) (ds : List D)
abbrev St := List (Str × Slot)
def owned : St → List Addr
  | [] => []
  | (_, .own a _) :: r => a :: owned r
  | (_, .val _) :: r => owned r
def setS (x : Str) (s : Slot) : St → St
  | [] => [(x, s)]
  | (y, t) :: r => if x = y then (x, s) :: r else (y, t) :: setS x s r
def okO (ok : Addr → Prop) (σ : St) (a : Addr) : Prop := ok a ∧ a ∉ owned σ
/-- where a name of the frame lies -/
def Holds (env : Env) (h : Heap) (x : Str) (v : Value) : Prop :=
  (env.kindOf x = some .local ∧ ∃ m, h.Ns env.locals m ∧ m x = some v) ∨
  ((env.kindOf x = some .cell ∨ env.kindOf x = some .free) ∧ ∃ c, env.cells.lookup x = some c ∧ h.IsCell c (some v))
theorem Holds.ext {base h h' : Heap} {env : Env} {x : Str} {v : Value} (e : Ext base h h') (q : Holds env h x v) : Holds env h' x v := by
  rcases q with ⟨k, m, n, r⟩ | ⟨k, c, l, r⟩
  · exact .inl ⟨k, m, e.ns n, r⟩
  · exact .inr ⟨k, c, l, e.cell r⟩
structure Frame (env : Env) (h : Heap) : Prop where
  kind : env.scope.kind = .function
  ns : ∃ m, h.Ns env.locals m
  cells : ∀ x c, env.cells.lookup x = some c → ∃ v, h.IsCell c v
  apart : env.cells.Pairwise fun x y => x.2 ≠ y.2
  away : ∀ x c, env.cells.lookup x = some c → c ≠ env.locals
  glob : env.globals = mainGlobals
  blt : env.builtins = builtinsNs
theorem Frame.ext {base h h' : Heap} {env : Env} (e : Ext base h h') (q : Frame env h) : Frame env h' :=
  ⟨q.kind, q.ns.imp fun _ n => e.ns n, fun x c l => (q.cells x c l).imp fun _ n => e.cell n, q.apart, q.away, q.glob, q.blt⟩
/-- the objects that a frame may write -/
def FrW (env : Env) (a : Addr) : Prop := a = env.locals ∨ ∃ x, env.cells.lookup x = some a
def Wr (env : Env) (σ : St) (a : Addr) : Prop := FrW env a ∨ a ∈ owned σ
/-- a list of the program's own making -/
def OwnL (h : Heap) (a : Addr) (vs : List Value) : Prop := ∃ n, h.get? a = some (listOf vs.toArray n)
theorem OwnL.list {h : Heap} {a : Addr} {vs : List Value} (l : OwnL h a vs) : h.IsList a vs.toArray := let ⟨n, e⟩ := l; ⟨_, e, rfl, n, rfl⟩
theorem OwnL.some {h : Heap} {a : Addr} {vs : List Value} (l : OwnL h a vs) : (h.get? a).isSome = true := by obtain ⟨n, e⟩ := l; rw [e]; rfl
theorem Ext.own {base h h' : Heap} {a : Addr} {vs : List Value} (x : Ext base h h') (l : OwnL h a vs) : OwnL h' a vs := by
  obtain ⟨n, e⟩ := l
  obtain ⟨o', e', _, _, k⟩ := x a _ e
  rw [k (.inr rfl)] at e'; exact ⟨n, e'⟩
theorem ExtBut.own {base h h' : Heap} {W : Addr → Prop} {a : Addr} {vs : List Value} (x : ExtBut base W h h') (w : ¬ W a) (l : OwnL h a vs) : OwnL h' a vs := by
  obtain ⟨n, e⟩ := l
  obtain ⟨o', e', _, _, k⟩ := x a _ w e
  rw [k (.inr rfl)] at e'; exact ⟨n, e'⟩
structure Inv (base : Heap) (ok : Addr → Prop) (env : Env) (σ : St) (h : Heap) : Prop where
  frame : Frame env h
  off : ∀ a, Wr env σ a → base.get? a = none
  fresh : FreshOk ok h
  vals : ∀ x d, σ.lookup x = some (.val d) → ∃ v, Holds env h x v ∧ Rep (okO ok σ) h v d
  owns : ∀ x a ds, σ.lookup x = some (.own a ds) → Holds env h x (.ref a) ∧ ok a ∧ ∃ vs, OwnL h a vs ∧ RepAll (okO ok σ) h vs ds
  there : ∀ a ∈ owned σ, ∃ vs, OwnL h a vs
  once : (owned σ).Nodup
theorem Inv.ext {ok : Addr → Prop} {base h h' : Heap} {env : Env} {σ : St} (e : Ext base h h') (i : Inv base ok env σ h) : Inv base ok env σ h' where
  frame := i.frame.ext e
  off := i.off
  fresh := i.fresh.stp e
  vals := fun x d l => let ⟨v, a, r⟩ := i.vals x d l; ⟨v, a.ext e, r.ext e fun _ h _ => h⟩
  owns := fun x a ds l => let ⟨p, q, vs, r, t⟩ := i.owns x a ds l; ⟨p.ext e, q, vs, e.own r, t.ext e fun _ h _ => h⟩
  there := fun a m => (i.there a m).imp fun _ r => e.own r
  once := i.once
theorem Inv.freshO {ok : Addr → Prop} {base h : Heap} {env : Env} {σ : St} (i : Inv base ok env σ h) : FreshOk (okO ok σ) h := fun b e => ⟨i.fresh b e, fun m => by
  obtain ⟨vs, k, q⟩ := i.there b m
  rw [e] at q; cases q⟩
section
variable (G : Gr) (n : Nat)
/-- an expression's value -/
def Ev (env : Env) (σ : St) (e : Expr) (d : D) : Prop := ∀ ok A s E, Room n A → G.base.StaysIn s.heap → Inv G.base ok env σ s.heap →
  wpAny G.M A (eval e env) (fun v s' => Stp G.base s s' ∧ Rep (okO ok σ) s'.heap v d) E s
/-- a test's answer -/
def Tr (env : Env) (σ : St) (e : Expr) (b : Bool) : Prop := ∀ ok A s E, Room n A → G.base.StaysIn s.heap → Inv G.base ok env σ s.heap →
  wpAny G.M A (isTrue e env (eval e env)) (fun r s' => Stp G.base s s' ∧ r = b) E s
def BinD (op : Operator) (da db d : D) : Prop := ∀ ok A s E va vb, Room n A → G.base.StaysIn s.heap → FreshOk ok s.heap → Rep ok s.heap va da → Rep ok s.heap vb db →
  wpAny G.M A (binaryOp op va vb) (fun v s' => Stp G.base s s' ∧ Rep ok s'.heap v d) E s
def CmpD (op : CmpOp) (da db : D) (b : Bool) : Prop := ∀ ok A s E va vb, Room n A → G.base.StaysIn s.heap → FreshOk ok s.heap → Rep ok s.heap va da → Rep ok s.heap vb db →
  wpAny G.M A (compareOp op va vb) (fun v s' => Stp G.base s s' ∧ v = .bool b) E s
def CallD (f : Value) (ds : List D) (d : D) : Prop := ∀ ok A s E vs, Room n A → G.base.StaysIn s.heap → FreshOk ok s.heap → RepAll ok s.heap vs ds →
  wpAny G.M A (call f vs) (fun v s' => Stp G.base s s' ∧ Rep ok s'.heap v d) E s
def TruD (d : D) (b : Bool) : Prop := ∀ ok A s E v, Room n A → G.base.StaysIn s.heap → FreshOk ok s.heap → Rep ok s.heap v d →
  wpAny G.M A (truthy v) (fun r s' => Stp G.base s s' ∧ r = b) E s
def IdxD (do_ di d : D) : Prop := ∀ ok A s E vo vi, Room n A → G.base.StaysIn s.heap → FreshOk ok s.heap → Rep ok s.heap vo do_ → Rep ok s.heap vi di →
  wpAny G.M A (getItem vo vi) (fun v s' => Stp G.base s s' ∧ Rep ok s'.heap v d) E s
/-- the call of a method comes to this callee with the object first -/
def MethD (d : D) (name : Str) (f : Value) : Prop := ∀ ok A s E v pl, Room n A → G.base.StaysIn s.heap → FreshOk ok s.heap → Rep ok s.heap v d →
  wpAny G.M A (getMethod v name pl) (fun r s' => Stp G.base s s' ∧ r = (f, [v])) E s
end
end Mine
end
section
open PySem PySem.W PyProof.Rows PySem.Calls
set_option maxRecDepth 100000
namespace Mine
section
variable {G : Gr} {n : Nat} {env : Env} {σ : St}
/-- borrowed: the value may be a list that the frame still fills -/
def EvB (G : Gr) (n : Nat) (env : Env) (σ : St) (e : Expr) (d : D) : Prop := ∀ ok A s E, Room n A → G.base.StaysIn s.heap → Inv G.base ok env σ s.heap →
  wpAny G.M A (eval e env) (fun v s' => Stp G.base s s' ∧ Rep ok s'.heap v d) E s
theorem Ev.b {e : Expr} {d : D} (h : Ev G n env σ e d) : EvB G n env σ e d := fun ok A s E r k i =>
  wpAny_mono (h ok A s E r k i) (fun _ _ p => ⟨p.1, p.2.weak fun _ q => q.1⟩) fun _ _ x => x
theorem Ev.cast {e : Expr} {d d' : D} (h : Ev G n env σ e d) (q : d = d') : Ev G n env σ e d' := q ▸ h
def Atomic : D → Bool
  | .none | .bool _ | .int _ | .str _ | .bytes _ | .raw _ => true
  | _ => false
theorem Rep.atomic {ok ok' : Addr → Prop} {h h' : Heap} {v : Value} {d : D} (r : Rep ok h v d) (a : Atomic d = true) : Rep ok' h' v d := by
  cases r <;> first | (cases a; done) | constructor
theorem Ev.int {i : Int} {k : Nat} {p : Pos} : Ev G n env σ (.Constant (.int i) k p) (.int i) := fun _ _ _ _ _ _ _ => wpAny_Constant_int ⟨.tok, .int _ _⟩
theorem Ev.str {x : Str} {k : Nat} {p : Pos} : Ev G n env σ (.Constant (.str x) k p) (.str x) := fun _ _ _ _ _ _ _ => Constant_str ⟨.tok, .str _ _⟩
theorem Ev.bool {b : Bool} {k : Nat} {p : Pos} : Ev G n env σ (.Constant (.bool b) k p) (.bool b) := fun _ _ _ _ _ _ _ => Constant_bool ⟨.refl, .bool _⟩
theorem Ev.none {k : Nat} {p : Pos} : Ev G n env σ (.Constant .none k p) .none := fun _ _ _ _ _ _ _ => Constant_none ⟨.refl, .none⟩
theorem wpAny_holds {A : Around} {E : Value → Shared → Prop} {s : Shared} {x : Str} {p : Pos} {v : Value} {Q : Value → Shared → Prop} {M : Model} (hk : env.scope.kind = .function) (q : Holds env s.heap x v) (h : Q v s)
    (hd : (x == ("__debug__" : Str)) = false) (hc : (x == ("__classdict__" : Str)) = false) : wpAny M A (eval (.Name x p) env) Q E s := by
  refine wpAny_Name ?_ hd
  rcases q with ⟨k, m, hn, hv⟩ | ⟨k | k, c, hl, hv⟩
  · exact wpAny_loadName_local hk k hn hv h
  · exact wpAny_loadName_cell hk k hl hv h
  · exact wpAny_loadName_free hk k hl hv h hc
theorem Ev.name {x : Str} {p : Pos} {d : D} (hl : σ.lookup x = some (.val d)) (hd : (x == ("__debug__" : Str)) = false := by decide) (hc : (x == ("__classdict__" : Str)) = false := by decide) :
    Ev G n env σ (.Name x p) d := fun _ _ _ _ _ _ i => by
  obtain ⟨v, q, r⟩ := i.vals x d hl
  exact wpAny_holds i.frame.kind q ⟨.refl, r⟩ hd hc
theorem EvB.own {x : Str} {p : Pos} {a : Addr} {ds : List D} (hl : σ.lookup x = some (.own a ds)) (hd : (x == ("__debug__" : Str)) = false := by decide) (hc : (x == ("__classdict__" : Str)) = false := by decide) :
    EvB G n env σ (.Name x p) (.list ds) := fun _ _ _ _ _ _ i => by
  obtain ⟨q, o, vs, l, r⟩ := i.owns x a ds hl
  exact wpAny_holds i.frame.kind q ⟨.refl, .list o l.list (r.weak fun _ q => q.1)⟩ hd hc
theorem Ev.global {x : Str} {p : Pos} {v : Value} {d : D} (hk : env.kindOf x = some .globalImplicit) (hv : G.mg x = some v) (hr : ∀ ok h, Rep ok h v d) (hd : (x == ("__debug__" : Str)) = false := by decide) :
    Ev G n env σ (.Name x p) d := fun _ _ _ _ _ k i =>
  Name_function_global i.frame.kind hk (loadGlobal_global (by rw [i.frame.glob]; exact G.g.keeps k) hv ⟨.refl, hr _ _⟩) hd
theorem Ev.builtin {x : Str} {p : Pos} {v : Value} (hk : env.kindOf x = some .globalImplicit) (hg : G.mg x = .none) (hv : bootBuiltins x = some v) (hn : x ≠ "__name__" := by decide) (hd : (x == ("__debug__" : Str)) = false := by decide) :
    Ev G n env σ (.Name x p) (.raw v) := fun _ _ _ _ _ k i =>
  Name_function_global i.frame.kind hk (loadGlobal_builtin (by rw [i.frame.glob]; exact G.g.keeps k) hg (by rw [i.frame.blt]; exact G.b.keeps k) ((G.bb x hn).trans hv) ⟨.refl, .raw _⟩) hd
theorem Ev.binop {a b : Expr} {op : Operator} {p : Pos} {da db d : D} (ha : Ev G n env σ a da) (hb : Ev G n env σ b db) (ho : BinD G n op da db d) : Ev G n env σ (.BinOp a op b p) d := fun ok A s E r k i =>
  wpAny_BinOp (wpAny_mono (ha ok A s E r k i) (fun va s₁ p₁ => wpAny_mono (hb ok A s₁ E r (p₁.1.ext.base k) (i.ext p₁.1.ext)) (fun vb s₂ p₂ =>
    have st := p₁.1.trans p₂.1
    wpAny_mono (ho _ A s₂ E va vb r (st.ext.base k) (i.ext st.ext).freshO (p₁.2.stp p₂.1) p₂.2) (fun _ _ p₃ => ⟨st.trans p₃.1, p₃.2⟩) fun _ _ x => x) fun _ _ x => x) fun _ _ x => x)
theorem Ev.cmp {a b : Expr} {op : CmpOp} {p : Pos} {da db : D} {c : Bool} (ha : EvB G n env σ a da) (hb : EvB G n env σ b db) (ho : CmpD G n op da db c) (hm : behindInMarks op b = false := by with_unfolding_all rfl) :
    Ev G n env σ (.Compare a [op] [b] p) (.bool c) := fun ok A s E r k i =>
  wpAny_Compare1 (wpAny_mono (ha ok A s E r k i) (fun va s₁ p₁ => wpAny_mono (hb ok A s₁ E r (p₁.1.ext.base k) (i.ext p₁.1.ext)) (fun vb s₂ p₂ =>
    have st := p₁.1.trans p₂.1
    wpAny_mono (ho _ A s₂ E va vb r (st.ext.base k) (i.ext st.ext).fresh (p₁.2.stp p₂.1) p₂.2) (fun _ _ p₃ => ⟨st.trans p₃.1, p₃.2 ▸ .bool _⟩) fun _ _ x => x) fun _ _ x => x) fun _ _ x => x) hm
theorem Tr.cmp {a b : Expr} {op : CmpOp} {p : Pos} {da db : D} {c : Bool} (ha : EvB G n env σ a da) (hb : EvB G n env σ b db) (ho : CmpD G n op da db c) (hm : behindInMarks op b = false := by with_unfolding_all rfl) :
    Tr G n env σ (.Compare a [op] [b] p) c := fun ok A s E r k i =>
  wpAny_isTrue_Compare1 (wpAny_mono (ha ok A s E r k i) (fun va s₁ p₁ => wpAny_mono (hb ok A s₁ E r (p₁.1.ext.base k) (i.ext p₁.1.ext)) (fun vb s₂ p₂ =>
    have st := p₁.1.trans p₂.1
    wpAny_mono (ho _ A s₂ E va vb r (st.ext.base k) (i.ext st.ext).fresh (p₁.2.stp p₂.1) p₂.2) (fun _ _ p₃ => by rw [p₃.2]; exact wpAny_truthy_bool ⟨st.trans p₃.1, rfl⟩) fun _ _ x => x) fun _ _ x => x) fun _ _ x => x) hm
theorem Tr.plain {e : Expr} {d : D} {c : Bool} (h : EvB G n env σ e d) (ht : TruD G n d c)
    (he : ∀ whole, isTrue e env whole = (do let v ← whole; standAt e.pos; holding [v] (truthy v)) := by intro _; rfl) : Tr G n env σ e c := fun ok A s E r k i =>
  isTrue_plain (wpAny_mono (h ok A s E r k i) (fun v s₁ p₁ => wpAny_mono (ht ok A s₁ E v r (p₁.1.ext.base k) (i.ext p₁.1.ext).fresh p₁.2) (fun _ _ p₂ => ⟨p₁.1.trans p₂.1, p₂.2⟩) fun _ _ x => x) fun _ _ x => x) (he _)
theorem Tr.not {e : Expr} {p : Pos} {c : Bool} (h : Tr G n env σ e c) : Tr G n env σ (.UnaryOp .Not e p) (!c) := fun ok A s E r k i =>
  isTrue_not (wpAny_mono (h ok A s E r k i) (fun _ _ p => ⟨p.1, by rw [p.2]⟩) fun _ _ x => x)
theorem Tr.and_nil {p : Pos} : Tr G n env σ (.BoolOp .And [] p) true := fun _ _ _ _ _ _ _ => isTrue_and_nil ⟨.refl, rfl⟩
theorem Tr.or_nil {p : Pos} : Tr G n env σ (.BoolOp .Or [] p) false := fun _ _ _ _ _ _ _ => isTrue_or_nil ⟨.refl, rfl⟩
theorem Tr.and {e : Expr} {es : List Expr} {p : Pos} {c c' : Bool} (h : Tr G n env σ e c) (h' : c = true → Tr G n env σ (.BoolOp .And es p) c') : Tr G n env σ (.BoolOp .And (e :: es) p) (c && c') := fun ok A s E r k i =>
  isTrue_and (wpAny_mono (h ok A s E r k i) (fun b s₁ p₁ => by
    obtain ⟨st, rfl⟩ := p₁
    cases b with
    | false => exact ⟨st, rfl⟩
    | true => exact wpAny_mono (h' rfl ok A s₁ E r (st.ext.base k) (i.ext st.ext)) (fun _ _ p₂ => ⟨st.trans p₂.1, by rw [p₂.2]; rfl⟩) fun _ _ x => x) fun _ _ x => x)
theorem Tr.or {e : Expr} {es : List Expr} {p : Pos} {c c' : Bool} (h : Tr G n env σ e c) (h' : c = false → Tr G n env σ (.BoolOp .Or es p) c') : Tr G n env σ (.BoolOp .Or (e :: es) p) (c || c') := fun ok A s E r k i =>
  isTrue_or (wpAny_mono (h ok A s E r k i) (fun b s₁ p₁ => by
    obtain ⟨st, rfl⟩ := p₁
    cases b with
    | true => exact ⟨st, rfl⟩
    | false => exact wpAny_mono (h' rfl ok A s₁ E r (st.ext.base k) (i.ext st.ext)) (fun _ _ p₂ => ⟨st.trans p₂.1, by rw [p₂.2]; rfl⟩) fun _ _ x => x) fun _ _ x => x)
theorem Tr.cast {e : Expr} {c c' : Bool} (h : Tr G n env σ e c) (q : c = c') : Tr G n env σ e c' := q ▸ h
theorem Ev.ifexp {t a b : Expr} {p : Pos} {c : Bool} {d : D} (h : Tr G n env σ t c) (ha : c = true → Ev G n env σ a d) (hb : c = false → Ev G n env σ b d) : Ev G n env σ (.IfExp t a b p) d := fun ok A s E r k i =>
  IfExp_ (wpAny_mono (h ok A s E r k i) (fun b s₁ p₁ => by
    obtain ⟨st, rfl⟩ := p₁
    cases b with
    | true => exact wpAny_mono (ha rfl ok A s₁ E r (st.ext.base k) (i.ext st.ext)) (fun _ _ p₂ => ⟨st.trans p₂.1, p₂.2⟩) fun _ _ x => x
    | false => exact wpAny_mono (hb rfl ok A s₁ E r (st.ext.base k) (i.ext st.ext)) (fun _ _ p₂ => ⟨st.trans p₂.1, p₂.2⟩) fun _ _ x => x) fun _ _ x => x)
/-- a row of arguments or items -/
def EvL (G : Gr) (n : Nat) (env : Env) (σ : St) (es : List Expr) (ds : List D) : Prop := ∀ ok A s E p, Room n A → G.base.StaysIn s.heap → Inv G.base ok env σ s.heap →
  wpAny G.M A (spliced (backTo p (starEach es env))) (fun vs s' => Stp G.base s s' ∧ RepAll (okO ok σ) s'.heap vs ds) E s
def EvLB (G : Gr) (n : Nat) (env : Env) (σ : St) (es : List Expr) (ds : List D) : Prop := ∀ ok A s E p, Room n A → G.base.StaysIn s.heap → Inv G.base ok env σ s.heap →
  wpAny G.M A (spliced (backTo p (starEach es env))) (fun vs s' => Stp G.base s s' ∧ RepAll ok s'.heap vs ds) E s
def noStar : List Expr → Bool
  | [] => true
  | .Starred .. :: _ => false
  | _ :: r => noStar r
theorem EvL.nil : EvL G n env σ [] [] := fun _ _ _ _ _ _ _ _ => args_nil ⟨.refl, .nil⟩
theorem EvL.cons {e : Expr} {es : List Expr} {d : D} {ds : List D} (h : Ev G n env σ e d) (hs : EvL G n env σ es ds) (he : starEach (e :: es) env = (false, eval e env) :: starEach es env := by rfl) : EvL G n env σ (e :: es) (d :: ds) := fun ok A s E p r k i =>
  args_cons (wpAny_mono (h ok A s E r k i) (fun v s₁ p₁ => wpAny_mono (hs ok A s₁ E p r (p₁.1.ext.base k) (i.ext p₁.1.ext)) (fun vs s₂ p₂ => ⟨p₁.1.trans p₂.1, .cons (p₁.2.stp p₂.1) p₂.2⟩) fun _ _ x => x) fun _ _ x => x) he
theorem EvLB.nil : EvLB G n env σ [] [] := fun _ _ _ _ _ _ _ _ => args_nil ⟨.refl, .nil⟩
theorem EvLB.cons {e : Expr} {es : List Expr} {d : D} {ds : List D} (h : EvB G n env σ e d) (hs : EvLB G n env σ es ds) (he : starEach (e :: es) env = (false, eval e env) :: starEach es env := by rfl) : EvLB G n env σ (e :: es) (d :: ds) := fun ok A s E p r k i =>
  args_cons (wpAny_mono (h ok A s E r k i) (fun v s₁ p₁ => wpAny_mono (hs ok A s₁ E p r (p₁.1.ext.base k) (i.ext p₁.1.ext)) (fun vs s₂ p₂ => ⟨p₁.1.trans p₂.1, .cons (p₁.2.stp p₂.1) p₂.2⟩) fun _ _ x => x) fun _ _ x => x) he
/-- what may stand at a call's head -/
inductive Callee (G : Gr) : Value → Prop
  | builtin (id : String) : Callee G (.builtin id)
  | type (T : String) : Callee G (.type T)
  | fn {a : Addr} {o : Obj} {fd : FuncData} : G.base.get? a = some o → o.data = .func fd → Callee G (.ref a)
theorem callWith_callee {M : Model} {A : Around} {E : Value → Shared → Prop} {s : Shared} {pos : Pos} {f : Value} {first : List Value} {es : List Expr} {Q : Value → Shared → Prop} (c : Callee G f)
    (hplain : (backTo pos (starEach es env)).any (·.1) = false)
    (h : wpAny M A (spliced (backTo pos (starEach es env))) (fun vs s₁ => G.base.StaysIn s₁.heap ∧ wpAny M A (call f (first ++ vs)) Q E s₁) E s) (hns : noStar es = true) :
    wpAny M A (callWith pos f first (backTo pos (starEach es env)) []) Q E s := by
  have hargs : ∀ {Q' : Args → Shared → Prop}, wpAny M A (spliced (backTo pos (starEach es env))) (fun vs s₁ => Q' ⟨vs, []⟩ s₁) E s → wpAny M A (evalArgs f true (backTo pos (starEach es env)) []) Q' E s := by
    intro Q' hq
    cases es with
    | nil =>
      have e1 : evalArgs f true (backTo pos (starEach [] env)) [] = (pure ⟨[], []⟩ : Sem Args) := rfl
      rw [e1]
      exact fun Γ p hΓ => hq Γ p hΓ
    | cons e r =>
      have he : starEach (e :: r) env = (false, eval e env) :: starEach r env := by
        cases e <;> first | rfl | cases hns
      rw [he] at hq ⊢
      exact evalArgs_plain hq
  cases c with
  | builtin id => exact callWith_builtin hplain (hargs (wpAny_mono h (fun vs s₁ p => p.2) fun _ _ x => x))
  | type T => exact PyProof.Rows.callWith_type hplain (hargs (wpAny_mono h (fun vs s₁ p => p.2) fun _ _ x => x))
  | fn ho hd => exact callWith_function (hargs (wpAny_mono h (fun vs s₁ p => ⟨⟨p.1 _ _ ho, hd⟩, p.2⟩) fun _ _ x => x))
theorem Ev.call {x : Str} {p pos : Pos} {es : List Expr} {f : Value} {ds : List D} {d : D} (hf : Ev G n env σ (.Name x p) (.raw f)) (c : Callee G f) (ha : EvL G n env σ es ds) (hc : CallD G n f ds d)
    (hns : noStar es = true := by rfl) (hplain : (backTo pos (starEach es env)).any (·.1) = false := by rfl) : Ev G n env σ (.Call (.Name x p) es [] pos) d := fun ok A s E r k i =>
  Call_ (wpAny_mono (hf ok A s E r k i) (fun v s₁ p₁ => by
    obtain ⟨st, rp⟩ := p₁
    cases rp
    refine callWith_callee c hplain (wpAny_mono (ha ok A s₁ E pos r (st.ext.base k) (i.ext st.ext)) (fun vs s₂ p₂ => ⟨p₂.1.ext.base (st.ext.base k), ?_⟩) fun _ _ x => x) hns
    have st' := st.trans p₂.1
    exact wpAny_mono (hc _ A s₂ E vs r (st'.ext.base k) (i.ext st'.ext).freshO p₂.2) (fun _ _ p₃ => ⟨st'.trans p₃.1, p₃.2⟩) fun _ _ x => x) fun _ _ x => x)
theorem Ev.meth {o : Expr} {name : Str} {apos pos : Pos} {es : List Expr} {f : Value} {dv : D} {ds : List D} {d : D} (ho : Ev G n env σ o dv) (hm : MethD G n dv name f) (c : Callee G f) (ha : EvL G n env σ es ds) (hc : CallD G n f (dv :: ds) d)
    (hns : noStar es = true := by rfl) (hplain : (backTo pos (starEach es env)).any (·.1) = false := by rfl)
    {pl : Sem Bool} (he : eval (.Call (.Attribute o name apos) es [] pos) env = (do
      let ov ← eval o env
      standAt apos.atName
      let (f, first) ← holding [ov] (getMethod ov name pl)
      callWith pos f first (backTo pos (starEach es env)) []) := by rfl) : Ev G n env σ (.Call (.Attribute o name apos) es [] pos) d := fun ok A s E r k i =>
  MethodCall_ (pl := pl) (wpAny_mono (ho ok A s E r k i) (fun v s₁ p₁ => wpAny_mono (hm _ A s₁ E v _ r (p₁.1.ext.base k) (i.ext p₁.1.ext).freshO p₁.2) (fun fx s₂ p₂ => by
    obtain ⟨st₂, rfl⟩ := p₂
    have st' := p₁.1.trans st₂
    refine callWith_callee c hplain (wpAny_mono (ha ok A s₂ E pos r (st'.ext.base k) (i.ext st'.ext)) (fun vs s₃ p₃ => ⟨p₃.1.ext.base (st'.ext.base k), ?_⟩) fun _ _ x => x) hns
    have st'' := st'.trans p₃.1
    exact wpAny_mono (hc _ A s₃ E _ r (st''.ext.base k) (i.ext st''.ext).freshO (.cons ((p₁.2.stp st₂).stp p₃.1) p₃.2)) (fun _ _ p₄ => ⟨st''.trans p₄.1, p₄.2⟩) fun _ _ x => x) fun _ _ x => x) fun _ _ x => x) he
theorem Ev.sub {o i : Expr} {p : Pos} {do_ di d : D} {T id : String} (ho : Ev G n env σ o do_) (hi : Ev G n env σ i di) (hx : IdxD G n do_ di d)
    (hT : ∀ ok (s : Shared) v, Rep ok s.heap v do_ → s.TypeIs v T) (hl : typeLookup (.type T) "__getitem__" = pure (some (.builtin id)))
    (hs : ∀ a b, ∃ ops, subscripted i false a b = operate ops (getItem a b) := by intro a b; first | exact ⟨[a, b], rfl⟩ | exact ⟨[b, a], rfl⟩) : Ev G n env σ (.Subscript o i p) d := fun ok A s E r k iv =>
  Subscript_ (wpAny_mono (ho ok A s E r k iv) (fun vo s₁ p₁ => wpAny_mono (hi ok A s₁ E r (p₁.1.ext.base k) (iv.ext p₁.1.ext)) (fun vi s₂ p₂ => by
    have st := p₁.1.trans p₂.1
    obtain ⟨ops, hs⟩ := hs vo vi
    exact tail_any (hT _ _ _ (p₁.2.stp p₂.1)) hl (wpAny_mono (hx _ A s₂ E vo vi r (st.ext.base k) (iv.ext st.ext).freshO (p₁.2.stp p₂.1) p₂.2) (fun _ _ p₃ => ⟨st.trans p₃.1, p₃.2⟩) fun _ _ x => x) hs) fun _ _ x => x) fun _ _ x => x)
theorem fresh_get {h : Heap} : h.get? h.objs.size = .none := by
  cases q : h.get? h.objs.size with
  | none => rfl
  | some o => exact absurd (Heap.lt_size q) (Nat.lt_irrefl _)
theorem Ev.list {es : List Expr} {p : Pos} {ds : List D} (h : EvL G n env σ es ds) (hz : ds.length ≤ sizeLine) : Ev G n env σ (.List es p) (.list ds) := fun ok A s E r k i =>
  List_ (wpAny_mono (h ok A s E p r k i) (fun vs s₁ p₁ => by
    refine wpAny_newObj_type ?_ (by show vs.toArray.size ≤ sizeLine; rw [List.size_toArray, p₁.2.length]; exact hz)
    have st : Stp G.base s₁ { s₁ with heap := s₁.heap.push { cls := .type "list", data := .seq vs.toArray } } := .push
    exact ⟨p₁.1.trans st, .list ((i.ext p₁.1.ext).freshO _ fresh_get) ⟨_, Heap.get?_push_size _ rfl, rfl, _, rfl⟩ (p₁.2.stp st)⟩) fun _ _ x => x)
theorem Ev.tuple {es : List Expr} {p : Pos} {k : Nat} {ds : List D} (h : EvL G n env σ es ds) (hz : ds.length ≤ sizeLine) : Ev G n env σ (.Tuple es k p) (.tuple ds) := fun ok A s E r k i =>
  Tuple_ (wpAny_mono (h ok A s E p r k i) (fun vs s₁ p₁ => by
    refine wpAny_newObj_type ?_ (by show vs.toArray.size ≤ sizeLine; rw [List.size_toArray, p₁.2.length]; exact hz)
    have st : Stp G.base s₁ { s₁ with heap := s₁.heap.push { cls := .type "tuple", data := .seq vs.toArray } } := .push
    exact ⟨p₁.1.trans st, .tuple ((i.ext p₁.1.ext).freshO _ fresh_get) ⟨_, Heap.get?_push_size _ rfl, rfl, _, rfl⟩ (p₁.2.stp st)⟩) fun _ _ x => x)
/-- a part of a slice -/
def EvO (G : Gr) (n : Nat) (env : Env) (σ : St) (e : Option Expr) (d : D) : Prop := ∀ ok A s E, Room n A → G.base.StaysIn s.heap → Inv G.base ok env σ s.heap →
  wpAny G.M A (evalPart e env) (fun v s' => Stp G.base s s' ∧ Rep (okO ok σ) s'.heap v d) E s
theorem EvO.none : EvO G n env σ .none .none := fun _ _ _ _ _ _ _ => wpAny_pure ⟨.refl, .none⟩
theorem EvO.some {e : Expr} {d : D} (h : Ev G n env σ e d) : EvO G n env σ (.some e) d := h
theorem Ev.slice {l u st : Option Expr} {p : Pos} {dl du ds : D} (hl : EvO G n env σ l dl) (hu : EvO G n env σ u du) (hs : EvO G n env σ st ds) : Ev G n env σ (.Slice l u st p) (.slice dl du ds) := fun ok A s E r k i =>
  wpAny_Slice (wpAny_mono (hl ok A s E r k i) (fun v1 s₁ p₁ => wpAny_mono (hu ok A s₁ E r (p₁.1.ext.base k) (i.ext p₁.1.ext)) (fun v2 s₂ p₂ => by
    have st := p₁.1.trans p₂.1
    refine wpAny_mono (hs ok A s₂ E r (st.ext.base k) (i.ext st.ext)) (fun v3 s₃ p₃ => ?_) fun _ _ x => x
    have st' := st.trans p₃.1
    have sp : Stp G.base s₃ { s₃ with heap := s₃.heap.push { cls := .type "slice", data := .fields #[v1, v2, v3] } } := .push
    exact ⟨st'.trans sp, .slice ((i.ext st'.ext).freshO _ fresh_get) (Heap.get?_push_size _ rfl) rfl rfl (((p₁.2.stp p₂.1).stp p₃.1).stp sp) ((p₂.2.stp p₃.1).stp sp) (p₃.2.stp sp)⟩) fun _ _ x => x) fun _ _ x => x)
end
end Mine
end
section
open PySem PySem.W PyProof.Rows PySem.Calls
set_option maxRecDepth 100000
namespace Mine
theorem lookup_setS_self {x : Str} {s : Slot} : ∀ σ : St, (setS x s σ).lookup x = some s
  | [] => by simp [setS]
  | (y, t) :: r => by
    unfold setS
    by_cases e : x = y
    · rw [if_pos e]; simp
    · rw [if_neg e, List.lookup_cons, beq_eq_false_iff_ne.mpr e]; exact lookup_setS_self r
theorem lookup_setS_ne {x y : Str} {s : Slot} (n : y ≠ x) : ∀ σ : St, (setS x s σ).lookup y = σ.lookup y
  | [] => by simp [setS, n]
  | (z, t) :: r => by
    unfold setS
    by_cases e : x = z
    · subst e; rw [if_pos rfl, List.lookup_cons, List.lookup_cons, beq_eq_false_iff_ne.mpr n]
    · rw [if_neg e, List.lookup_cons, List.lookup_cons]
      cases y == z <;> simp [lookup_setS_ne n r]
theorem owned_of_lookup {x : Str} {a : Addr} {ds : List D} : ∀ {σ : St}, σ.lookup x = some (.own a ds) → a ∈ owned σ
  | (y, t) :: r, h => by
    rw [List.lookup_cons] at h
    cases e : x == y with
    | true => rw [e] at h; cases h; exact List.mem_cons_self
    | false =>
      rw [e] at h
      have := owned_of_lookup h
      cases t with
      | val d => exact this
      | own b es => exact List.mem_cons_of_mem _ this
def slotAddr : Slot → List Addr
  | .val _ => []
  | .own a _ => [a]
theorem owned_cons (x : Str) (s : Slot) (r : St) : owned ((x, s) :: r) = slotAddr s ++ owned r := by cases s <;> rfl
/-- what setS does to the owned ones -/
theorem owned_setS (x : Str) (s : Slot) : ∀ σ : St, ∃ l₁ l₂ l₃, owned σ = l₁ ++ l₂ ++ l₃ ∧ owned (setS x s σ) = l₁ ++ slotAddr s ++ l₃ ∧ (∀ t, σ.lookup x = some t → l₂ = slotAddr t)
  | [] => ⟨[], [], [], rfl, by cases s <;> rfl, fun t h => by cases h⟩
  | (y, t) :: r => by
    unfold setS
    by_cases e : x = y
    · subst e
      rw [if_pos rfl, owned_cons, owned_cons]
      exact ⟨[], slotAddr t, owned r, by simp, by simp, fun t' h => by simp at h; rw [h]⟩
    · rw [if_neg e, owned_cons, owned_cons]
      obtain ⟨l₁, l₂, l₃, h1, h2, h3⟩ := owned_setS x s r
      refine ⟨slotAddr t ++ l₁, l₂, l₃, by rw [h1]; simp, by rw [h2]; simp, fun t' h => h3 t' ?_⟩
      rw [List.lookup_cons, beq_eq_false_iff_ne.mpr e] at h; exact h
theorem owned_setS_sub {x : Str} {s : Slot} {σ : St} {a : Addr} (h : a ∈ owned (setS x s σ)) : a ∈ owned σ ∨ a ∈ slotAddr s := by
  obtain ⟨l₁, l₂, l₃, h1, h2, _⟩ := owned_setS x s σ
  rw [h2] at h; rw [h1]
  simp only [List.mem_append] at h ⊢
  rcases h with (h | h) | h <;> simp [h]
theorem owned_setS_val {x : Str} {d : D} {σ : St} {a : Addr} (h : a ∈ owned (setS x (.val d) σ)) : a ∈ owned σ := (owned_setS_sub h).elim id fun h => nomatch h
theorem nodup_setS_val {x : Str} {d : D} {σ : St} (h : (owned σ).Nodup) : (owned (setS x (.val d) σ)).Nodup := by
  obtain ⟨l₁, l₂, l₃, h1, h2, _⟩ := owned_setS x (.val d) σ
  rw [h1] at h; rw [h2]
  exact h.sublist (by simp [slotAddr, List.append_assoc])
theorem nodup_setS_own {x : Str} {a : Addr} {ds : List D} {σ : St} (h : (owned σ).Nodup) (n : a ∉ owned σ ∨ ∃ es, σ.lookup x = some (.own a es)) : (owned (setS x (.own a ds) σ)).Nodup := by
  obtain ⟨l₁, l₂, l₃, h1, h2, h3⟩ := owned_setS x (.own a ds) σ
  rw [h2]
  rcases n with n | ⟨es, n⟩
  · rw [h1] at h n
    simp only [slotAddr]
    have h' : (l₁ ++ l₃).Nodup := h.sublist (by simp [List.append_assoc])
    simp only [List.mem_append, not_or] at n
    rw [List.append_assoc]
    rw [List.nodup_append] at h' ⊢
    refine ⟨h'.1, ?_, ?_⟩
    · rw [List.singleton_append, List.nodup_cons]; exact ⟨n.2, h'.2.1⟩
    · intro p hp q hq e
      rw [List.singleton_append, List.mem_cons] at hq
      rcases hq with rfl | hq
      · exact n.1.1 (e ▸ hp)
      · exact h'.2.2 p hp q hq e
  · rw [h1, h3 _ n] at h; exact h
/-- the address goes out of the owned ones -/
theorem notMem_setS_val {x : Str} {a : Addr} {ds : List D} {d : D} {σ : St} (h : (owned σ).Nodup) (l : σ.lookup x = some (.own a ds)) : a ∉ owned (setS x (.val d) σ) := by
  obtain ⟨l₁, l₂, l₃, h1, h2, h3⟩ := owned_setS x (.val d) σ
  rw [h2]; rw [h1, h3 _ l] at h
  simp only [slotAddr, List.append_assoc, List.append_nil] at h ⊢
  intro m
  rw [List.nodup_append] at h
  rcases List.mem_append.mp m with m | m
  · exact h.2.2 a m a (by simp) rfl
  · have := h.2.1; simp at this; exact this.1 m
theorem node_not_frame {env : Env} {h : Heap} {a : Addr} (F : Frame env h) (n : IsNode h a) : ¬ FrW env a := by
  rintro (e | ⟨x, l⟩)
  · obtain ⟨m, o, es, ep, q, d, _⟩ := F.ns
    rw [← e] at q
    cases n with
    | list l => obtain ⟨o', q', _, k, d'⟩ := l; rw [q] at q'; cases q'; rw [d] at d'; cases d'
    | tup l => obtain ⟨o', q', _, k, d'⟩ := l; rw [q] at q'; cases q'; rw [d] at d'; cases d'
    | slice q' _ d' => rw [q] at q'; cases q'; rw [d] at d'; cases d'
    | rng q' => unfold IsRange at q'; rw [q] at q'; cases q'; cases d
  · obtain ⟨v, o, q, d⟩ := F.cells x a l
    cases n with
    | list l => obtain ⟨o', q', _, k, d'⟩ := l; rw [q] at q'; cases q'; rw [d] at d'; cases d'
    | tup l => obtain ⟨o', q', _, k, d'⟩ := l; rw [q] at q'; cases q'; rw [d] at d'; cases d'
    | slice q' _ d' => rw [q] at q'; cases q'; rw [d] at d'; cases d'
    | rng q' => unfold IsRange at q'; rw [q] at q'; cases q'; cases d
end Mine
end
section
open PySem PySem.W PyProof.Rows PySem.Calls
set_option maxRecDepth 100000
namespace Mine
inductive Fl where
  | next | brk | cont
  | ret (d : D)
def FlowIs (ok : Addr → Prop) (h : Heap) : Flow → Fl → Prop
  | .next, .next => True
  | .brk, .brk => True
  | .cont, .cont => True
  | .ret v, .ret d => Rep ok h v d
  | _, _ => False
structure Mv (base : Heap) (W : Addr → Prop) (s s' : Shared) : Prop where
  ext : ExtBut base W s.heap s'.heap
  dom : ∀ b, s'.heap.get? b = none → s.heap.get? b = none
  os : s'.os = s.os
  gens : GensKeep s.gens s'.gens
theorem Stp.mv {base : Heap} {W : Addr → Prop} {s s' : Shared} (x : Stp base s s') : Mv base W s s' := ⟨fun b o _ e => x.ext b o e, fun b e => x.ext.none e, x.os, x.gens⟩
theorem Mv.stp {base : Heap} {W : Addr → Prop} {s s' : Shared} (x : Mv base W s s') (h : ∀ b, W b → s.heap.get? b = none) : Stp base s s' := ⟨fun b o e => x.ext b o (fun q => by rw [h b q] at e; cases e) e, x.os, x.gens⟩
theorem Mv.trans {base : Heap} {W W' : Addr → Prop} {a b c : Shared} (x : Mv base W a b) (y : Mv base W' b c) (h : ∀ p, W' p → W p ∨ a.heap.get? p = none) : Mv base W a c := by
  refine ⟨fun p o n e => ?_, fun p e => x.dom p (y.dom p e), y.os.trans x.os, x.gens.trans y.gens⟩
  obtain ⟨o', e', c', d', k'⟩ := x.ext p o n e
  obtain ⟨o'', e'', c'', d'', k''⟩ := y.ext p o' (fun q => (h p q).elim n fun z => by rw [z] at e; cases e) e'
  refine ⟨o'', e'', c''.trans c', d''.trans d', fun q => ?_⟩
  have := k' q; subst this
  exact k'' q
theorem Mv.base {base : Heap} {W : Addr → Prop} {s s' : Shared} (x : Mv base W s s') (k : base.StaysIn s.heap) (h : ∀ a, W a → base.get? a = none) : base.StaysIn s'.heap := by
  intro b o e
  obtain ⟨o', e', _, _, k'⟩ := x.ext b o (fun q => by rw [h b q] at e; cases e) (k b o e)
  rw [e', k' (.inl (by rw [e]; rfl))]
section
variable {G : Gr} {n : Nat} {env : Env} {σ : St}
def After (G : Gr) (env : Env) (σ : St) (ok : Addr → Prop) (s : Shared) (Q : Fl → St → Prop) (f : Flow) (s' : Shared) : Prop :=
  ∃ fl σ', Q fl σ' ∧ FlowIs ok s'.heap f fl ∧ Inv G.base ok env σ' s'.heap ∧ Mv G.base (Wr env σ) s s' ∧ G.base.StaysIn s'.heap ∧ ∀ a ∈ owned σ', a ∈ owned σ ∨ s.heap.get? a = none
def Ex (G : Gr) (n : Nat) (env : Env) (σ : St) (body : List Stmt) (Q : Fl → St → Prop) : Prop := ∀ ok A s E, Room n A → G.base.StaysIn s.heap → Inv G.base ok env σ s.heap →
  wpAny G.M A (execs body env) (After G env σ ok s Q) E s
def Ex1 (G : Gr) (n : Nat) (env : Env) (σ : St) (st : Stmt) (Q : Fl → St → Prop) : Prop := ∀ ok A s E, Room n A → G.base.StaysIn s.heap → Inv G.base ok env σ s.heap →
  wpAny G.M A (exec st env) (After G env σ ok s Q) E s
theorem After.trans {ok : Addr → Prop} {σ₁ : St} {s s₁ s₂ : Shared} {Q : Fl → St → Prop} {f : Flow} (m : Mv G.base (Wr env σ) s s₁) (o : ∀ a ∈ owned σ₁, a ∈ owned σ ∨ s.heap.get? a = none) (a : After G env σ₁ ok s₁ Q f s₂)
    (z : ∀ b, s₁.heap.get? b = none → s.heap.get? b = none) : After G env σ ok s Q f s₂ := by
  obtain ⟨fl, σ', q, fi, i, m', k, o'⟩ := a
  refine ⟨fl, σ', q, fi, i, m.trans m' ?_, k, fun b hb => ?_⟩
  · rintro p (h | h)
    · exact .inl (.inl h)
    · exact (o p h).imp .inr id
  · rcases o' b hb with h | h
    · exact o b h
    · exact .inr (z b h)
theorem After.mono {ok : Addr → Prop} {s s' : Shared} {Q Q' : Fl → St → Prop} {f : Flow} (a : After G env σ ok s Q f s') (h : ∀ fl σ', Q fl σ' → Q' fl σ') : After G env σ ok s Q' f s' := by
  obtain ⟨fl, σ', q, r⟩ := a
  exact ⟨fl, σ', h _ _ q, r⟩
theorem Ex.mono {body : List Stmt} {Q Q' : Fl → St → Prop} (a : Ex G n env σ body Q) (h : ∀ fl σ', Q fl σ' → Q' fl σ') : Ex G n env σ body Q' := fun ok A s E r k i => wpAny_mono (a ok A s E r k i) (fun _ _ p => p.mono h) fun _ _ x => x
theorem Ex1.mono {st : Stmt} {Q Q' : Fl → St → Prop} (a : Ex1 G n env σ st Q) (h : ∀ fl σ', Q fl σ' → Q' fl σ') : Ex1 G n env σ st Q' := fun ok A s E r k i => wpAny_mono (a ok A s E r k i) (fun _ _ p => p.mono h) fun _ _ x => x
theorem Ex.nil {Q : Fl → St → Prop} (h : Q .next σ) : Ex G n env σ [] Q := fun ok A s E r k i => wpAny_execs_nil ⟨.next, σ, h, trivial, i, Stp.refl.mv, k, fun _ h => .inl h⟩
theorem Ex.cons {st : Stmt} {rest : List Stmt} {Q : Fl → St → Prop} (h : Ex1 G n env σ st fun fl σ' => match fl with | .next => Ex G n env σ' rest Q | fl => Q fl σ') : Ex G n env σ (st :: rest) Q := fun ok A s E r k i =>
  wpAny_execs_cons (wpAny_mono (h ok A s E r k i) (fun f s' a => by
    obtain ⟨fl, σ', q, fi, i', m, k', o⟩ := a
    cases f <;> cases fl <;> first | exact fi.elim | skip
    · exact wpAny_mono (q ok A s' E r k' i') (fun _ _ a => a.trans m o m.dom) fun _ _ x => x
    · exact ⟨.brk, σ', q, trivial, i', m, k', o⟩
    · exact ⟨.cont, σ', q, trivial, i', m, k', o⟩
    · exact ⟨.ret _, σ', q, fi, i', m, k', o⟩) fun _ _ x => x)
/-- a statement that only steps on to a state -/
theorem Ex.step {st : Stmt} {rest : List Stmt} {Q : Fl → St → Prop} {P : St → Prop} (h : Ex1 G n env σ st fun fl σ' => fl = .next ∧ P σ') (hr : ∀ σ', P σ' → Ex G n env σ' rest Q) : Ex G n env σ (st :: rest) Q :=
  .cons (h.mono fun fl σ' p => by obtain ⟨rfl, p⟩ := p; exact hr σ' p)
theorem Ex.one {st : Stmt} {rest : List Stmt} {Q : Fl → St → Prop} {σ' : St} (h : Ex1 G n env σ st fun fl σ'' => fl = .next ∧ σ'' = σ') (hr : Ex G n env σ' rest Q) : Ex G n env σ (st :: rest) Q :=
  .step h fun _ e => e ▸ hr
/-- a name of the frame that may be stored -/
def Storable (env : Env) (x : Str) : Prop := env.kindOf x = some .local ∨ (env.kindOf x = some .cell ∧ (env.cells.lookup x).isSome = true)
theorem cells_inj {cs : List (Str × Addr)} (hp : cs.Pairwise fun x y => x.2 ≠ y.2) {x y : Str} {c : Addr} (hx : cs.lookup x = some c) (hy : cs.lookup y = some c) : x = y :=
  name_of_addr hp (mem_of_lookup hx) (mem_of_lookup hy)
theorem wpAny_store {M : Model} {A : Around} {E : Value → Shared → Prop} {s : Shared} {base : Heap} {x : Str} {v : Value} {Q : Unit → Shared → Prop} (F : Frame env s.heap) (hx : Storable env x)
    (h : ∀ s', Holds env s'.heap x v → (∀ y u, y ≠ x → Holds env s.heap y u → Holds env s'.heap y u) → Frame env s'.heap → Mv base (FrW env) s s' → Q () s') : wpAny M A (storeName env x v) Q E s := by
  rcases hx with hk | ⟨hk, hc⟩
  · obtain ⟨m, hn⟩ := F.ns
    refine wpAny_storeName_local hk hn (fun h' hn' hs' => ?_) (by rw [F.kind]; rfl)
    have hL : ∃ o, h'.get? env.locals = some o := let ⟨o, _, _, q, _⟩ := hn'; ⟨o, q⟩
    have keep : ∀ b, b ≠ env.locals → h'.get? b = s.heap.get? b := fun b hb => hs'.2 b hb
    refine h _ (.inl ⟨hk, _, hn', by simp⟩) (fun y u hy q => ?_) ⟨F.kind, ⟨_, hn'⟩, fun z c l => ?_, F.apart, F.away, F.glob, F.blt⟩ ⟨fun b o w e => ⟨o, (keep b fun q => w (.inl q)).trans e, rfl, rfl, fun _ => rfl⟩, fun b e => ?_, rfl, .refl⟩
    · rcases q with ⟨k, m', n', r⟩ | ⟨k, c, l, r⟩
      · refine .inl ⟨k, _, hn', ?_⟩
        have : m' y = m y := by
          obtain ⟨o, es, ep, q1, q2, _, q3⟩ := n'
          obtain ⟨o₂, es₂, ep₂, p1, p2, _, p3⟩ := hn
          rw [q1] at p1; cases p1; rw [q2] at p2; cases p2
          rw [← q3, ← p3]
        simp [hy, ← this, r]
      · exact .inr ⟨k, c, l, r.sameBut hs' (F.away y c l)⟩
    · obtain ⟨u, q⟩ := F.cells z c l
      exact ⟨u, q.sameBut hs' (F.away z c l)⟩
    · by_cases hb : b = env.locals
      · obtain ⟨o, q⟩ := hL
        have e' : h'.get? b = none := e
        rw [hb, q] at e'; cases e'
      · rw [← keep b hb]; exact e
  · obtain ⟨c, hc⟩ := Option.isSome_iff_exists.mp hc
    obtain ⟨u₀, hcell⟩ := F.cells x c hc
    refine wpAny_storeName_cell F.kind hk hc hcell fun h' hc' hs' => ?_
    have keep : ∀ b, b ≠ c → h'.get? b = s.heap.get? b := fun b hb => hs'.2 b hb
    obtain ⟨m, hn⟩ := F.ns
    refine h _ (.inr ⟨.inl hk, c, hc, hc'⟩) (fun y u hy q => ?_) ⟨F.kind, ⟨m, hn.sameBut hs' (Ne.symm (F.away x c hc))⟩, fun z c' l => ?_, F.apart, F.away, F.glob, F.blt⟩ ⟨fun b o w e => ⟨o, (keep b fun q => w (.inr ⟨x, q ▸ hc⟩)).trans e, rfl, rfl, fun _ => rfl⟩, fun b e => ?_, rfl, .refl⟩
    · rcases q with ⟨k, m', n', r⟩ | ⟨k, c', l, r⟩
      · exact .inl ⟨k, m', n'.sameBut hs' (Ne.symm (F.away x c hc)), r⟩
      · exact .inr ⟨k, c', l, r.sameBut hs' fun q => hy (cells_inj F.apart l (q ▸ hc))⟩
    · by_cases hz : c' = c
      · subst hz; exact ⟨_, hc'⟩
      · obtain ⟨u, q⟩ := F.cells z c' l
        exact ⟨u, q.sameBut hs' hz⟩
    · by_cases hb : b = c
      · obtain ⟨o, q, _⟩ := hc'
        have e' : h'.get? b = none := e
        rw [hb, q] at e'; cases e'
      · rw [← keep b hb]; exact e
end
end Mine
end
section
open PySem PySem.W PyProof.Rows PySem.Calls
set_option maxRecDepth 100000
namespace Mine
section
variable {G : Gr} {n : Nat} {env : Env} {σ : St}
theorem Inv.set_val {base : Heap} {ok : Addr → Prop} {s s' : Shared} {x : Str} {v : Value} {d : D} (i : Inv base ok env σ s.heap) (m : Mv base (FrW env) s s') (F : Frame env s'.heap) (hx : Holds env s'.heap x v)
    (ho : ∀ y u, y ≠ x → Holds env s.heap y u → Holds env s'.heap y u) (r : Rep (okO ok σ) s.heap v d) : Inv base ok env (setS x (.val d) σ) s'.heap := by
  have nf : ∀ {P : Addr → Prop} a, P a → IsNode s.heap a → ¬ FrW env a := fun a _ q => node_not_frame i.frame q
  have up : ∀ a, okO ok σ a → okO ok (setS x (.val d) σ) a := fun a q => ⟨q.1, fun z => q.2 (owned_setS_val z)⟩
  refine ⟨F, fun a w => i.off a (w.imp id fun z => owned_setS_val z), fun b e => i.fresh b (m.dom b e), fun y e l => ?_, fun y a ds l => ?_, fun a h => ?_, nodup_setS_val i.once⟩
  · by_cases hy : y = x
    · subst hy
      rw [lookup_setS_self] at l; cases l
      exact ⟨v, hx, r.extBut m.ext nf fun a q _ => up a q⟩
    · rw [lookup_setS_ne hy] at l
      obtain ⟨u, p, q⟩ := i.vals y e l
      exact ⟨u, ho y u hy p, q.extBut m.ext nf fun a q _ => up a q⟩
  · by_cases hy : y = x
    · subst hy; rw [lookup_setS_self] at l; cases l
    · rw [lookup_setS_ne hy] at l
      obtain ⟨p, q, vs, lst, rs⟩ := i.owns y a ds l
      exact ⟨ho y _ hy p, q, vs, m.ext.own (node_not_frame i.frame (.list lst.list)) lst, rs.extBut m.ext nf fun a q _ => up a q⟩
  · obtain ⟨vs, lst⟩ := i.there a (owned_setS_val h)
    exact ⟨vs, m.ext.own (node_not_frame i.frame (.list lst.list)) lst⟩
theorem Mv.weak {base : Heap} {W W' : Addr → Prop} {s s' : Shared} (x : Mv base W s s') (h : ∀ a, W a → W' a) : Mv base W' s s' := ⟨fun b o n e => x.ext b o (fun q => n (h b q)) e, x.dom, x.os, x.gens⟩
/-- x = e -/
theorem Ex1.assign {x : Str} {e : Expr} {p pos : Pos} {d : D} (h : Ev G n env σ e d) (hx : Storable env x) (hs : swapsWith e (some (.Name x p)) pos.line env = pure false := by rfl) :
    Ex1 G n env σ (.Assign [.Name x p] e pos) fun fl σ' => fl = .next ∧ σ' = setS x (.val d) σ := fun ok A s E r k i =>
  wpAny_Assign_Name (wpAny_mono (h ok A s E r k i) (fun v s₁ p₁ => by
    have i₁ := i.ext p₁.1.ext
    refine wpAny_store (base := G.base) i₁.frame hx fun s₂ hv ho F m => ?_
    have m' : Mv G.base (Wr env σ) s s₂ := (p₁.1.mv (W := Wr env σ)).trans (m.weak fun _ w => Or.inl w) fun _ w => .inl w
    exact ⟨.next, _, ⟨rfl, rfl⟩, trivial, i₁.set_val m F hv ho p₁.2, m', m'.base k i.off, fun a w => .inl (owned_setS_val w)⟩) fun _ _ x => x) hs
/-- an expression that makes a list -/
def EvF (G : Gr) (n : Nat) (env : Env) (σ : St) (e : Expr) (ds : List D) : Prop := ∀ ok A s E, Room n A → G.base.StaysIn s.heap → Inv G.base ok env σ s.heap →
  wpAny G.M A (eval e env) (fun v s' => Stp G.base s s' ∧ ∃ a vs, v = .ref a ∧ s.heap.get? a = none ∧ OwnL s'.heap a vs ∧ RepAll (fun b => okO ok σ b ∧ b ≠ a) s'.heap vs ds) E s
theorem EvF.ev {e : Expr} {ds : List D} (h : EvF G n env σ e ds) : Ev G n env σ e (.list ds) := fun ok A s E r k i =>
  wpAny_mono (h ok A s E r k i) (fun v s' p => by
    obtain ⟨st, a, vs, rfl, f, l, rs⟩ := p
    exact ⟨st, .list (i.freshO a f) l.list (rs.weak fun _ q => q.1)⟩) fun _ _ x => x
theorem EvF.list {es : List Expr} {p : Pos} {ds : List D} (h : EvL G n env σ es ds) (hz : ds.length ≤ sizeLine) : EvF G n env σ (.List es p) ds := fun ok A s E r k i =>
  List_ (wpAny_mono (h ok A s E p r k i) (fun vs s₁ p₁ => by
    refine wpAny_newObj_type ?_ (by show vs.toArray.size ≤ sizeLine; rw [List.size_toArray, p₁.2.length]; exact hz)
    have st : Stp G.base s₁ { s₁ with heap := s₁.heap.push { cls := .type "list", data := .seq vs.toArray } } := .push
    refine ⟨p₁.1.trans st, _, vs, rfl, p₁.1.ext.none fresh_get, ⟨_, Heap.get?_push_size _ rfl⟩, p₁.2.ext st.ext fun b q z => ⟨q, fun e => ?_⟩⟩
    rw [e, fresh_get] at z; cases z) fun _ _ x => x)
/-- a new list is stored, x from now on the frame's own to fill -/
theorem After.own {x : Str} {a : Addr} {vs : List Value} {ds : List D} {ok : Addr → Prop} {s s₁ s₂ : Shared} (k : G.base.StaysIn s.heap) (i : Inv G.base ok env σ s.heap) (st : Stp G.base s s₁) (f : s.heap.get? a = none) (l : OwnL s₁.heap a vs) (rs : RepAll (fun b => okO ok σ b ∧ b ≠ a) s₁.heap vs ds)
    (hv : Holds env s₂.heap x (.ref a)) (ho : ∀ y u, y ≠ x → Holds env s₁.heap y u → Holds env s₂.heap y u) (F : Frame env s₂.heap) (m : Mv G.base (FrW env) s₁ s₂) :
    Inv G.base ok env (setS x (.own a ds) σ) s₂.heap ∧ Mv G.base (Wr env σ) s s₂ ∧ G.base.StaysIn s₂.heap ∧ ∀ b ∈ owned (setS x (.own a ds) σ), b ∈ owned σ ∨ b = a := by
    have i₁ := i.ext st.ext
    have m' : Mv G.base (Wr env σ) s s₂ := (st.mv (W := Wr env σ)).trans (m.weak fun _ w => Or.inl w) fun _ w => .inl w
    have hno : a ∉ owned σ := fun w => by obtain ⟨_, _, q⟩ := i.there a w; rw [f] at q; cases q
    have hb : G.base.get? a = none := by
      cases q : G.base.get? a with
      | none => rfl
      | some o => rw [k a o q] at f; cases f
    have old : ∀ b, (s.heap.get? b).isSome = true → b ≠ a := fun b q e => by rw [e, f] at q; cases q
    refine ⟨?_, m', m'.base k i.off, fun b w => (owned_setS_sub w).imp id fun w => List.mem_singleton.mp w⟩
    have hax : Inv G.base ok env σ s.heap := i
    -- the trees of the other names stood before the list was made
    have i₀ : Inv G.base (fun b => ok b ∧ b ≠ a) env σ s₁.heap := by
      refine ⟨i₁.frame, i₁.off, fun b e => ⟨i₁.fresh b e, fun q => ?_⟩, fun y d l' => ?_, fun y b es l' => ?_, i₁.there, i₁.once⟩
      · obtain ⟨_, q'⟩ := l; rw [← q, e] at q'; cases q'
      · obtain ⟨u, p, q⟩ := i.vals y d l'
        exact ⟨u, p.ext st.ext, q.ext st.ext fun b w z => ⟨⟨w.1, old b z⟩, w.2⟩⟩
      · obtain ⟨p, q, us, w, t⟩ := i.owns y b es l'
        exact ⟨p.ext st.ext, ⟨q, old b w.some⟩, us, st.ext.own w, t.ext st.ext fun b w z => ⟨⟨w.1, old b z⟩, w.2⟩⟩
    have up : ∀ b, okO (fun b => ok b ∧ b ≠ a) σ b → okO ok (setS x (.own a ds) σ) b := fun b q => ⟨q.1.1, fun z => (owned_setS_sub z).elim q.2 fun w => q.1.2 (List.mem_singleton.mp w)⟩
    have nf : ∀ {P : Addr → Prop} a, P a → IsNode s₁.heap a → ¬ FrW env a := fun a _ q => node_not_frame i₁.frame q
    have lst' : ∀ {b us}, OwnL s₁.heap b us → OwnL s₂.heap b us := fun {b us} lst => m.ext.own (node_not_frame i₁.frame (.list lst.list)) lst
    refine ⟨F, fun b w => ?_, fun b e => i₁.fresh b (m.dom b e), fun y e l' => ?_, fun y b es l' => ?_, fun b h => ?_, nodup_setS_own i.once (.inl hno)⟩
    · rcases w with w | w
      · exact i.off b (.inl w)
      · rcases owned_setS_sub w with w | w
        · exact i.off b (.inr w)
        · rw [List.mem_singleton.mp w]; exact hb
    · by_cases hy : y = x
      · subst hy; rw [lookup_setS_self] at l'; cases l'
      · rw [lookup_setS_ne hy] at l'
        obtain ⟨u, p, q⟩ := i₀.vals y e l'
        exact ⟨u, ho y u hy p, q.extBut m.ext nf fun b q _ => up b q⟩
    · by_cases hy : y = x
      · subst hy
        rw [lookup_setS_self] at l'; cases l'
        exact ⟨hv, i.fresh a f, vs, lst' l, rs.extBut m.ext nf fun b q _ => up b ⟨⟨q.1.1, q.2⟩, q.1.2⟩⟩
      · rw [lookup_setS_ne hy] at l'
        obtain ⟨p, q, us, lst, r⟩ := i₀.owns y b es l'
        exact ⟨ho y _ hy p, q.1, us, lst' lst, r.extBut m.ext nf fun b q _ => up b q⟩
    · rcases owned_setS_sub h with h | h
      · exact (i₁.there b h).imp fun _ => lst'
      · rw [List.mem_singleton.mp h]; exact ⟨_, lst' l⟩
/-- x = [..], x from now on the frame's own to fill -/
theorem Ex1.assignF {x : Str} {e : Expr} {p pos : Pos} {ds : List D} (h : EvF G n env σ e ds) (hx : Storable env x) (hs : swapsWith e (some (.Name x p)) pos.line env = pure false := by rfl) :
    Ex1 G n env σ (.Assign [.Name x p] e pos) fun fl σ' => fl = .next ∧ ∃ a, σ' = setS x (.own a ds) σ := fun ok A s E r k i =>
  wpAny_Assign_Name (wpAny_mono (h ok A s E r k i) (fun v s₁ p₁ => by
    obtain ⟨st, a, vs, rfl, f, l, rs⟩ := p₁
    refine wpAny_store (base := G.base) (i.ext st.ext).frame hx fun s₂ hv ho F m => ?_
    obtain ⟨i', m', k', o'⟩ := After.own k i st f l rs hv ho F m
    exact ⟨.next, _, ⟨rfl, a, rfl⟩, trivial, i', m', k', fun b w => (o' b w).imp id fun w => by rw [w]; exact f⟩) fun _ _ x => x) hs
theorem Ex1.ret {e : Expr} {pos : Pos} {d : D} {Q : Fl → St → Prop} (h : EvB G n env σ e d) (q : Q (.ret d) σ) : Ex1 G n env σ (.Return (some e) pos) Q := fun ok A s E r k i =>
  wpAny_Return_some (wpAny_mono (h ok A s E r k i) (fun v s₁ p₁ => ⟨.ret d, σ, q, p₁.2, i.ext p₁.1.ext, p₁.1.mv, p₁.1.ext.base k, fun _ w => .inl w⟩) fun _ _ x => x)
theorem Ex1.ite {t : Expr} {a b : List Stmt} {pos : Pos} {c : Bool} {Q : Fl → St → Prop} (h : Tr G n env σ t c) (ha : c = true → Ex G n env σ a Q) (hb : c = false → Ex G n env σ b Q) : Ex1 G n env σ (.If t a b pos) Q := fun ok A s E r k i =>
  wpAny_If (wpAny_mono (h ok A s E r k i) (fun c' s₁ p₁ => by
    obtain ⟨st, rfl⟩ := p₁
    have go : ∀ body, Ex G n env σ body Q → wpAny G.M A (execs body env) (After G env σ ok s Q) E s₁ := fun body hq =>
      wpAny_mono (hq ok A s₁ E r (st.ext.base k) (i.ext st.ext)) (fun _ _ a => a.trans st.mv (fun _ w => .inl w) fun b e => st.ext.none e) fun _ _ x => x
    cases c' with
    | true => exact go _ (ha rfl)
    | false => exact go _ (hb rfl)) fun _ _ x => x)
end
end Mine
end
section
open PySem PySem.W PyProof.Rows PySem.Calls
set_option maxRecDepth 100000
namespace Mine
section
variable {G : Gr} {n : Nat} {env : Env} {σ : St}
theorem owned_setS_same {x : Str} {a : Addr} {ds es : List D} (l : σ.lookup x = some (.own a ds)) : owned (setS x (.own a es) σ) = owned σ := by
  obtain ⟨l₁, l₂, l₃, h1, h2, h3⟩ := owned_setS x (.own a es) σ
  rw [h1, h2, h3 _ l]; rfl
/-- the frame's own list is filled on -/
theorem Inv.upd {base : Heap} {ok : Addr → Prop} {s : Shared} {h' : Heap} {x : Str} {a : Addr} {vs : List Value} {ds ds' : List D} (i : Inv base ok env σ s.heap) (l : σ.lookup x = some (.own a ds))
    (hs : Heap.SameBut a s.heap h') (hl : OwnL h' a vs) (rs : RepAll (okO ok σ) s.heap vs ds') : Inv base ok env (setS x (.own a ds') σ) h' ∧ ∀ tk, Mv base (Wr env σ) s { s with heap := h', toks := tk } := by
  have hm := owned_of_lookup l
  obtain ⟨us, hus⟩ := i.there a hm
  have nfa : ¬ FrW env a := node_not_frame i.frame (.list hus.list)
  have keep : ∀ b, b ≠ a → h'.get? b = s.heap.get? b := fun b hb => hs.2 b hb
  have X : ExtBut base (· = a) s.heap h' := fun b o w e => ⟨o, (keep b w).trans e, rfl, rfl, fun _ => rfl⟩
  have nf : ∀ b, okO ok σ b → IsNode s.heap b → ¬ (b = a) := fun b q _ e => q.2 (e ▸ hm)
  have eo := owned_setS_same (es := ds') l
  have hok : okO ok (setS x (.own a ds') σ) = okO ok σ := by funext b; unfold okO; rw [eo]
  have hh : ∀ y v, Holds env s.heap y v → Holds env h' y v := fun y v q => by
    rcases q with ⟨k, m, hn, r⟩ | ⟨k, c, hc, r⟩
    · exact .inl ⟨k, m, hn.sameBut hs fun e => nfa (.inl e.symm), r⟩
    · exact .inr ⟨k, c, hc, r.sameBut hs fun e => nfa (.inr ⟨y, e ▸ hc⟩)⟩
  have dom : ∀ b, h'.get? b = none → s.heap.get? b = none := fun b e => by
    by_cases hb : b = a
    · have := hl.some; rw [← hb, e] at this; cases this
    · rw [← keep b hb]; exact e
  refine ⟨⟨⟨i.frame.kind, ?_, fun y c q => ?_, i.frame.apart, i.frame.away, i.frame.glob, i.frame.blt⟩, fun b w => i.off b (w.imp id fun w => eo ▸ w), fun b e => i.fresh b (dom b e), fun y d q => ?_, fun y b es q => ?_, fun b w => ?_, eo ▸ i.once⟩, fun tk => ⟨fun b o w e => X b o (fun q => w (.inr (q ▸ hm))) e, dom, rfl, .refl⟩⟩
  · obtain ⟨m, hn⟩ := i.frame.ns
    exact ⟨m, hn.sameBut hs fun e => nfa (.inl e.symm)⟩
  · obtain ⟨v, hv⟩ := i.frame.cells y c q
    exact ⟨v, hv.sameBut hs fun e => nfa (.inr ⟨y, e ▸ q⟩)⟩
  · rw [hok]
    by_cases hy : y = x
    · subst hy; rw [lookup_setS_self] at q; cases q
    · rw [lookup_setS_ne hy] at q
      obtain ⟨u, p, r⟩ := i.vals y d q
      exact ⟨u, hh y u p, r.extBut X nf fun _ w _ => w⟩
  · rw [hok]
    by_cases hy : y = x
    · subst hy
      rw [lookup_setS_self] at q; cases q
      obtain ⟨p, o, _⟩ := i.owns y a ds l
      exact ⟨hh y _ p, o, vs, hl, rs.extBut X nf fun _ w _ => w⟩
    · rw [lookup_setS_ne hy] at q
      obtain ⟨p, o, ws, lw, rw'⟩ := i.owns y b es q
      have hne : b ≠ a := fun e => by
        subst e
        -- two names own the same list: not so
        have h1 : b ∉ owned (setS x (.val .none) σ) := notMem_setS_val i.once l
        exact h1 (owned_of_lookup (x := y) (ds := es) (by rw [lookup_setS_ne hy]; exact q))
      exact ⟨hh y _ p, o, ws, X.own hne lw, rw'.extBut X nf fun _ w _ => w⟩
  · rw [eo] at w
    by_cases hb : b = a
    · subst hb; exact ⟨vs, hl⟩
    · obtain ⟨ws, lw⟩ := i.there b w
      exact ⟨ws, X.own hb lw⟩
/-- x.append(e) -/
theorem Ex1.append {x : Str} {p1 p2 p3 pos : Pos} {e : Expr} {a : Addr} {ds : List D} {d : D} (l : σ.lookup x = some (.own a ds)) (h : Ev G n env σ e d) (hz : ds.length < sizeLine)
    (hd : (x == ("__debug__" : Str)) = false := by decide) (hc : (x == ("__classdict__" : Str)) = false := by decide)
    (hs : swapsWith (.Call (.Attribute (.Name x p1) "append" p2) [e] [] p3) none pos.line env = pure false := by rfl)
    (he1 : starEach [e] env = [(false, eval e env)] := by rfl)
    {pl : Sem Bool} (he : eval (.Call (.Attribute (.Name x p1) "append" p2) [e] [] p3) env = (do
      let ov ← eval (.Name x p1) env
      standAt p2.atName
      let (f, first) ← holding [ov] (getMethod ov "append" pl)
      callWith p3 f first (backTo p3 (starEach [e] env)) []) := by rfl) :
    Ex1 G n env σ (.Expr (.Call (.Attribute (.Name x p1) "append" p2) [e] [] p3) pos) fun fl σ' => fl = .next ∧ σ' = setS x (.own a (ds ++ [d])) σ := fun ok A s E r k i => by
  obtain ⟨q, o, vs, lv, rs⟩ := i.owns x a ds l
  refine wpAny_Expr (MethodCall_ (pl := pl) (wpAny_holds i.frame.kind q ?_ hd hc) he) (by unfold interactive; rw [i.frame.kind]; rfl) hs
  obtain ⟨m, hm⟩ := lv
  refine getMethod_list_append hm rfl rfl ?_
  refine callWith_callee (.builtin _) (by rw [he1]; rfl) (G := G) ?_ (by cases e <;> first | rfl | cases he1)
  refine PyProof.Rows.args_cons (wpAny_mono (h ok A s E r k i) (fun v s₁ p₁ => PyProof.Rows.args_nil ?_) fun _ _ x => x) he1
  have k₁ := p₁.1.ext.base k
  have i₁ := i.ext p₁.1.ext
  refine ⟨k₁, ?_⟩
  obtain ⟨m₁, hm₁⟩ := p₁.1.ext.own ⟨m, hm⟩
  refine append_at (hsz := by rw [List.size_toArray, rs.length]; omega) hm₁ fun h' hs' hl' => ?_
  have hl : OwnL h' a (vs ++ [v]) := ⟨m₁ + 1, by rw [hl']; simp⟩
  obtain ⟨i', m'⟩ := i₁.upd l hs' hl ((rs.stp p₁.1).append (.cons p₁.2 .nil))
  have mv := (p₁.1.mv (W := Wr env σ)).trans (m' s₁.toks) fun _ w => .inl w
  exact ⟨.next, _, ⟨rfl, rfl⟩, trivial, i', mv, mv.base k i.off, fun b w => .inl (owned_setS_same (es := ds ++ [d]) l ▸ w)⟩
theorem lookup_some_of_setS {x y : Str} {s t : Slot} (h : (setS x s σ).lookup y = some t) (n : y ≠ x) : σ.lookup y = some t := by rwa [lookup_setS_ne n] at h
/-- the own list is left as it is from here on: a value as any other -/
theorem Inv.freeze {base : Heap} {ok : Addr → Prop} {h : Heap} {x : Str} {a : Addr} {ds : List D} (i : Inv base ok env σ h) (l : σ.lookup x = some (.own a ds)) : Inv base ok env (setS x (.val (.list ds)) σ) h := by
  have up : ∀ b, okO ok σ b → okO ok (setS x (.val (.list ds)) σ) b := fun b q => ⟨q.1, fun z => q.2 (owned_setS_val z)⟩
  refine ⟨i.frame, fun b w => i.off b (w.imp id owned_setS_val), i.fresh, fun y d q => ?_, fun y b es q => ?_, fun b w => i.there b (owned_setS_val w), nodup_setS_val i.once⟩
  · by_cases hy : y = x
    · subst hy
      rw [lookup_setS_self] at q; cases q
      obtain ⟨p, o, vs, lv, rs⟩ := i.owns y a ds l
      exact ⟨_, p, .list ⟨o, notMem_setS_val i.once l⟩ lv.list (rs.weak up)⟩
    · obtain ⟨u, p, r⟩ := i.vals y d (lookup_some_of_setS q hy)
      exact ⟨u, p, r.weak up⟩
  · by_cases hy : y = x
    · subst hy; rw [lookup_setS_self] at q; cases q
    · obtain ⟨p, o, vs, lv, rs⟩ := i.owns y b es (lookup_some_of_setS q hy)
      exact ⟨p, o, vs, lv, rs.weak up⟩
theorem After.sub {ok : Addr → Prop} {s s' : Shared} {σ' : St} {Q : Fl → St → Prop} {f : Flow} (h : ∀ b ∈ owned σ', b ∈ owned σ) (a : After G env σ' ok s Q f s') : After G env σ ok s Q f s' := by
  obtain ⟨fl, σ₂, q, fi, i, m, k, o⟩ := a
  exact ⟨fl, σ₂, q, fi, i, m.weak fun b w => w.imp id (h b), k, fun b w => (o b w).imp (h b) id⟩
theorem Ex.freeze {x : Str} {a : Addr} {ds : List D} {body : List Stmt} {Q : Fl → St → Prop} (l : σ.lookup x = some (.own a ds)) (h : Ex G n env (setS x (.val (.list ds)) σ) body Q) : Ex G n env σ body Q := fun ok A s E r k i =>
  wpAny_mono (h ok A s E r k (i.freeze l)) (fun _ _ a => a.sub fun b w => owned_setS_val w) fun _ _ x => x
/-- forgetting -/
def Sub : St → St → Prop
  | [], _ => True
  | (x, s) :: r, σ => σ.lookup x = some s ∧ Sub r σ
theorem Sub.get {σ₀ : St} : ∀ {σ₁ : St}, Sub σ₀ σ₁ → ∀ {x : Str} {s : Slot}, σ₀.lookup x = some s → σ₁.lookup x = some s := by
  induction σ₀ with
  | nil => intro _ _ x s h; cases h
  | cons y r ih =>
    intro σ₁ hs x s h
    obtain ⟨y, t⟩ := y
    rw [List.lookup_cons] at h
    cases e : x == y with
    | true => rw [e] at h; cases h; rw [beq_iff_eq.mp e]; exact hs.1
    | false => rw [e] at h; exact ih hs.2 h
theorem Sub.owned {σ₀ σ₁ : St} (h : Sub σ₀ σ₁) : ∀ a ∈ owned σ₀, a ∈ owned σ₁ := by
  induction σ₀ with
  | nil => intro a w; cases w
  | cons y r ih =>
    obtain ⟨y, t⟩ := y
    intro a w
    rw [owned_cons] at w
    rcases List.mem_append.mp w with w | w
    · cases t with
      | val d => cases w
      | own b es => rw [List.mem_singleton.mp w]; exact owned_of_lookup h.1
    · exact ih h.2 a w
theorem Inv.sub {base : Heap} {ok : Addr → Prop} {h : Heap} {σ₀ : St} (i : Inv base ok env σ h) (hs : Sub σ₀ σ) (hn : (owned σ₀).Nodup) : Inv base ok env σ₀ h := by
  have up : ∀ b, okO ok σ b → okO ok σ₀ b := fun b q => ⟨q.1, fun z => q.2 (hs.owned b z)⟩
  exact ⟨i.frame, fun b w => i.off b (w.imp id (hs.owned b)), i.fresh, fun y d q => let ⟨u, p, r⟩ := i.vals y d (hs.get q); ⟨u, p, r.weak up⟩,
    fun y b es q => let ⟨p, o, vs, lv, rs⟩ := i.owns y b es (hs.get q); ⟨p, o, vs, lv, rs.weak up⟩, fun b w => i.there b (hs.owned b w), hn⟩
end
end Mine
end
section
open PySem PySem.W PyProof.Rows PySem.Calls
set_option maxRecDepth 100000
namespace Mine
section
variable {G : Gr} {n : Nat} {env : Env} {σ : St}
theorem RepAll.mv {base : Heap} {ok ok' : Addr → Prop} {s s' : Shared} {vs : List Value} {ds : List D} (i : Inv base ok env σ s.heap) (m : Mv base (Wr env σ) s s') (r : RepAll (okO ok σ) s.heap vs ds) (k : ∀ b, okO ok σ b → ok' b) : RepAll ok' s'.heap vs ds :=
  r.extBut m.ext (fun a q w z => z.elim (node_not_frame i.frame w) q.2) fun b q _ => k b q
/-- a target takes a value -/
def AssD (G : Gr) (n : Nat) (env : Env) (t : Expr) (d : D) (f : St → St) : Prop := ∀ σ ok A s E v, Room n A → G.base.StaysIn s.heap → Inv G.base ok env σ s.heap → Rep (okO ok σ) s.heap v d →
  wpAny G.M A (assign t env v) (fun _ s' => Inv G.base ok env (f σ) s'.heap ∧ Mv G.base (Wr env σ) s s' ∧ ∀ b ∈ owned (f σ), b ∈ owned σ) E s
theorem AssD.name {x : Str} {p : Pos} {d : D} (hx : Storable env x) : AssD G n env (.Name x p) d (setS x (.val d)) := fun σ ok A s E v r k i rp =>
  wpAny_assign_Name (wpAny_store (base := G.base) i.frame hx fun s' hv ho F m => ⟨i.set_val m F hv ho rp, m.weak fun _ w => .inl w, fun b w => owned_setS_val w⟩)
/-- a row of targets takes a row of values -/
def AssL (G : Gr) (n : Nat) (env : Env) (ts : List Expr) (ds : List D) (f : St → St) : Prop := ∀ σ ok A s E vs, Room n A → G.base.StaysIn s.heap → Inv G.base ok env σ s.heap → RepAll (okO ok σ) s.heap vs ds →
  wpAny G.M A (assignInOrder ((assignEach ts env).map (·.2)) vs) (fun _ s' => Inv G.base ok env (f σ) s'.heap ∧ Mv G.base (Wr env σ) s s' ∧ ∀ b ∈ owned (f σ), b ∈ owned σ) E s
theorem AssL.nil : AssL G n env [] [] id := fun σ ok A s E vs r k i rs => by
  cases rs
  exact wpAny_pure ⟨i, Stp.refl.mv, fun _ h => h⟩
theorem AssL.cons {t : Expr} {ts : List Expr} {d : D} {ds : List D} {f g : St → St} (h : AssD G n env t d f) (hs : AssL G n env ts ds g) (he : assignEach (t :: ts) env = (false, assign t env) :: assignEach ts env := by rfl) :
    AssL G n env (t :: ts) (d :: ds) (fun σ => g (f σ)) := fun σ ok A s E vs r k i rs => by
  cases rs with
  | cons a rest =>
    rw [he]
    refine wpAny_bind (wpAny_holding (wpAny_mono (h σ ok A s E _ r k i a) (fun _ s₁ p₁ => ?_) fun _ _ x => x))
    have up : ∀ b, okO ok σ b → okO ok (f σ) b := fun b q => ⟨q.1, fun z => q.2 (p₁.2.2 b z)⟩
    refine wpAny_mono (hs (f σ) ok A s₁ E _ r (p₁.2.1.base k i.off) p₁.1 (rest.mv i p₁.2.1 up)) (fun _ s₂ p₂ => ⟨p₂.1, p₁.2.1.trans p₂.2.1 fun b w => .inl (w.imp id (p₁.2.2 b)), fun b w => p₁.2.2 b (p₂.2.2 b w)⟩) fun _ _ x => x
theorem assignEach_length (ts : List Expr) : (assignEach ts env).length = ts.length := by
  induction ts with
  | nil => rfl
  | cons t r ih => cases t <;> simp [assignEach, ih]
theorem AssD.tuple {ts : List Expr} {k : Nat} {p : Pos} {ds : List D} {f : St → St} (h : AssL G n env ts ds f) (hn : ts.length = ds.length) (hstar : (assignEach ts env).findIdx? (·.1) = none := by rfl) : AssD G n env (.Tuple ts k p) (.tuple ds) f := fun σ ok A s E v r k i rp => by
  cases rp with
  | tuple o l rs =>
    refine assign_Tuple_tuple r.handled l (by rw [assignEach_length, hn, List.size_toArray, rs.length]) hstar fun h' he => ?_
    have st : Stp G.base s { s with heap := h' } := ⟨.of_stays fun b o e => he b o (Nat.ne_of_lt (Heap.lt_size e)) e, rfl, .refl⟩
    refine wpAny_mono (h σ ok A { s with heap := h' } E _ r (st.ext.base k) (i.ext st.ext) (rs.stp st)) (fun _ s₂ p₂ => ⟨p₂.1, (st.mv (W := Wr env σ)).trans p₂.2.1 fun _ w => .inl w, p₂.2.2⟩) fun _ _ x => x
/-- what an iterator does to the world: itself alone -/
structure MvI (base : Heap) (wr : Addr → Prop) (wg : Nat → Prop) (s s' : Shared) : Prop where
  ext : ExtBut base wr s.heap s'.heap
  dom : ∀ b, ¬ wr b → s'.heap.get? b = none → s.heap.get? b = none
  os : s'.os = s.os
  gkeep : ∀ (i : Nat) (x : GenState), ¬ wg i → s.gens[i]? = some x → s'.gens[i]? = some x
  gbare : (∀ x ∈ s.gens, x.bare = true) → ∀ x ∈ s'.gens, x.bare = true
theorem MvI.after {base : Heap} {W wr : Addr → Prop} {wg : Nat → Prop} {s s₁ s₂ : Shared} (m : Mv base W s s₁) (i : MvI base wr wg s₁ s₂) (h : ∀ a, wr a → s.heap.get? a = none) (hg : ∀ g, wg g → s.gens[g]? = none) : Mv base W s s₂ := by
  refine ⟨fun b o w e => ?_, fun b e => ?_, i.os.trans m.os, ⟨fun j x e => i.gkeep j x (fun z => by rw [hg j z] at e; cases e) (m.gens.keep j x e), fun q => i.gbare (m.gens.bare q)⟩⟩
  · obtain ⟨o', e', c', d', k'⟩ := m.ext b o w e
    obtain ⟨o'', e'', c'', d'', k''⟩ := i.ext b o' (fun z => by rw [h b z] at e; cases e) e'
    refine ⟨o'', e'', c''.trans c', d''.trans d', fun q => ?_⟩
    have := k' q; subst this
    exact k'' q
  · by_cases z : wr b
    · exact h b z
    · exact m.dom b (i.dom b z e)
/-- an iterator at work: the items that are to come -/
structure Itr (G : Gr) (A : Around) (ok : Addr → Prop) (target : Expr) (I : Addr) (ds : List D) (fp wr : Addr → Prop) (wg : Nat → Prop) (Sx : Nat → Shared → Prop) : Prop where
  frame : ∀ i s s' W, Sx i s → Mv G.base W s s' → (∀ a, fp a → ¬ W a) → (∀ a, ok a → IsNode s.heap a → ¬ W a) → Sx i s'
  node : ∀ i s a, Sx i s → wr a → ¬ IsNode s.heap a ∧ (s.heap.get? a).isSome = true
  item : ∀ i d s E ok', ds[i]? = some d → Sx i s → G.base.StaysIn s.heap → (∀ a, ok a → ok' a) → FreshOk ok' s.heap → wpAny G.M A (pyNext (.ref I)) (fun r s₁ => ∃ v, r = some v ∧
    wpAny G.M A (letOwnedTupleGo target (.ref I) v) (fun _ s' => Rep ok' s'.heap v d ∧ Sx (i + 1) s' ∧ MvI G.base wr wg s s') E s₁) E s
  done : ∀ s E, Sx ds.length s → G.base.StaysIn s.heap → wpAny G.M A (pyNext (.ref I)) (fun r s' => r = none ∧ MvI G.base wr wg s s') E s
  self : ∀ i s (Q : Value → Shared → Prop) E, Sx i s → Q (.ref I) s → wpAny G.M A (pyIter (.ref I)) Q E s
/-- the head of a for: the expression gives an iterator over ds -/
def EvI (G : Gr) (n : Nat) (env : Env) (σ : St) (e target : Expr) (ds : List D) : Prop := ∀ ok A s E, Room n A → G.base.StaysIn s.heap → Inv G.base ok env σ s.heap →
  wpAny G.M A (eval e env) (fun x s₁ => wpAny G.M A (pyIter x) (fun it s' => Stp G.base s s' ∧ ∃ I fp wr wg Sx, it = .ref I ∧
    Itr G A (fun a => okO ok σ a ∧ (s'.heap.get? a).isSome = true) target I ds fp wr wg Sx ∧ Sx 0 s' ∧ (∀ a, fp a → (s'.heap.get? a).isSome = true ∧ ¬ Wr env σ a) ∧ (∀ a, wr a → s.heap.get? a = none ∧ fp a) ∧ ∀ g, wg g → s.gens[g]? = none) E s₁) E s
/-- an iterator's steps leave the frame's state -/
theorem Inv.mvX {base : Heap} {ok ok' : Addr → Prop} {wr : Addr → Prop} {wg : Nat → Prop} {s s' : Shared} (i : Inv base ok env σ s.heap) (m : MvI base wr wg s s') (hf : ∀ a, wr a → ¬ Wr env σ a) (hn : ∀ a, wr a → IsNode s.heap a → ¬ ok a)
    (w : ∀ b, ok b → ok' b) (hd : FreshOk ok' s'.heap) : Inv base ok' env σ s'.heap := by
  have nf : ∀ a, okO ok σ a → IsNode s.heap a → ¬ wr a := fun a o q z => hn a z q o.1
  have hh : ∀ y v, Holds env s.heap y v → Holds env s'.heap y v := fun y v q => by
    rcases q with ⟨k, mm, hns, r⟩ | ⟨k, c, hc, r⟩
    · obtain ⟨o, es, ep, e, d, rr⟩ := hns
      obtain ⟨o', e', _, d', _⟩ := m.ext _ o (fun z => hf _ z (.inl (.inl rfl))) e
      exact .inl ⟨k, mm, ⟨o', es, ep, e', d'.trans d, rr⟩, r⟩
    · obtain ⟨o, e, d⟩ := r
      obtain ⟨o', e', _, d', _⟩ := m.ext _ o (fun z => hf _ z (.inl (.inr ⟨y, hc⟩))) e
      exact .inr ⟨k, c, hc, o', e', d'.trans d⟩
  have up : ∀ b, okO ok σ b → okO ok' σ b := fun b q => ⟨w b q.1, q.2⟩
  refine ⟨⟨i.frame.kind, ?_, fun y c q => ?_, i.frame.apart, i.frame.away, i.frame.glob, i.frame.blt⟩, i.off, hd, fun y d q => ?_, fun y b es q => ?_, fun b w => ?_, i.once⟩
  · obtain ⟨mm, o, es, ep, e, d, rr⟩ := i.frame.ns
    obtain ⟨o', e', _, d', _⟩ := m.ext _ o (fun z => hf _ z (.inl (.inl rfl))) e
    exact ⟨mm, o', es, ep, e', d'.trans d, rr⟩
  · obtain ⟨v, o, e, d⟩ := i.frame.cells y c q
    obtain ⟨o', e', _, d', _⟩ := m.ext _ o (fun z => hf _ z (.inl (.inr ⟨y, q⟩))) e
    exact ⟨v, o', e', d'.trans d⟩
  · obtain ⟨u, p, r⟩ := i.vals y d q
    exact ⟨u, hh y u p, r.extBut m.ext nf fun _ z _ => up _ z⟩
  · obtain ⟨p, o, vs, lv, rs⟩ := i.owns y b es q
    exact ⟨hh y _ p, w b o, vs, m.ext.own (fun z => hf b z (.inr (owned_of_lookup q))) lv, rs.extBut m.ext nf fun _ z _ => up _ z⟩
  · obtain ⟨vs, lv⟩ := i.there b w
    exact ⟨vs, m.ext.own (fun z => hf b z (.inr w)) lv⟩
theorem Inv.mvI {base : Heap} {ok : Addr → Prop} {wr : Addr → Prop} {wg : Nat → Prop} {s s' : Shared} (i : Inv base ok env σ s.heap) (m : MvI base wr wg s s') (hf : ∀ a, wr a → ¬ Wr env σ a) (hn : ∀ a, wr a → ¬ IsNode s.heap a)
    (hd : ∀ b, wr b → ok b) : Inv base ok env σ s'.heap :=
  i.mvX m hf (fun a w nd _ => hn a w nd) (fun _ q => q) fun b e => by
    by_cases z : wr b
    · exact hd b z
    · exact i.fresh b (m.dom b z e)
end
/-- an object stands, up to a namespace's marks -/
def Same1 (base h h' : Heap) (b : Addr) : Prop := ∀ o, h.get? b = some o → ∃ o', h'.get? b = some o' ∧ o'.cls = o.cls ∧ o'.data = o.data ∧ ((base.get? b).isSome = true ∨ isDict o.data = false → o' = o)
/-- what is known besides the frame's state: of objects that the frame does not write -/
structure Rd (base : Heap) (env : Env) (fp : Addr → Prop) (H : Around → Heap → Prop) : Prop where
  keep : ∀ A h h', H A h → (∀ b, fp b → Same1 base h h' b) → H A h'
  apart : ∀ A h, H A h → Frame env h → ∀ b, fp b → (h.get? b).isSome = true ∧ ¬ FrW env b ∧ ∀ vs, ¬ OwnL h b vs
/-- an iterator that also writes tuples that it alone knows: X -/
structure ItrX (G : Gr) (A : Around) (ok X : Addr → Prop) (target : Expr) (I : Addr) (ds : List D) (fp wr : Addr → Prop) (wg : Nat → Prop) (Sx : Nat → Shared → Prop) : Prop where
  frame : ∀ i s s' W, Sx i s → Mv G.base W s s' → (∀ a, fp a → ¬ W a) → (∀ a, ok a → IsNode s.heap a → ¬ W a) → Sx i s'
  node : ∀ i s a, Sx i s → wr a → (¬ X a → ¬ IsNode s.heap a) ∧ (s.heap.get? a).isSome = true
  item : ∀ i d s E ok', ds[i]? = some d → Sx i s → G.base.StaysIn s.heap → (∀ a, ok a → ok' a) → FreshOk ok' s.heap → wpAny G.M A (pyNext (.ref I)) (fun r s₁ => ∃ v, r = some v ∧
    wpAny G.M A (letOwnedTupleGo target (.ref I) v) (fun _ s' => Rep ok' s'.heap v d ∧ Sx (i + 1) s' ∧ MvI G.base wr wg s s') E s₁) E s
  done : ∀ s E, Sx ds.length s → G.base.StaysIn s.heap → wpAny G.M A (pyNext (.ref I)) (fun r s' => r = none ∧ MvI G.base wr wg s s') E s
def EvIX (G : Gr) (n : Nat) (env : Env) (σ : St) (e target : Expr) (ds : List D) : Prop := ∀ ok A s E, Room n A → G.base.StaysIn s.heap → Inv G.base ok env σ s.heap →
  wpAny G.M A (eval e env) (fun x s₁ => wpAny G.M A (pyIter x) (fun it s' => Stp G.base s s' ∧ ∃ I fp wr wg Sx X, it = .ref I ∧
    ItrX G A (fun a => okO ok σ a ∧ (s'.heap.get? a).isSome = true ∧ ¬ X a) X target I ds fp wr wg Sx ∧ Sx 0 s' ∧ (∀ a, fp a → (s'.heap.get? a).isSome = true ∧ ¬ Wr env σ a) ∧ (∀ a, wr a → s.heap.get? a = none ∧ fp a) ∧ (∀ a, X a → wr a) ∧ ∀ g, wg g → s.gens[g]? = none) E s₁) E s
section
variable {G : Gr} {n : Nat} {env : Env} {σ : St} {fp : Addr → Prop} {H : Around → Heap → Prop}
theorem Rd.ext {base h h' : Heap} {A : Around} (R : Rd base env fp H) (x : Ext base h h') (k : H A h) : H A h' := R.keep A h h' k fun b _ o e => x b o e
theorem Rd.mv {ok : Addr → Prop} {base : Heap} {A : Around} {s s' : Shared} (R : Rd base env fp H) (i : Inv base ok env σ s.heap) (m : Mv base (Wr env σ) s s') (k : H A s.heap) : H A s'.heap :=
  R.keep A _ _ k fun b hb o e => m.ext b o (fun w => by
    obtain ⟨_, h2, h3⟩ := R.apart A _ k i.frame b hb
    rcases w with w | w
    · exact h2 w
    · obtain ⟨vs, l⟩ := i.there b w; exact h3 vs l) e
def ExP (G : Gr) (n : Nat) (env : Env) (H : Around → Heap → Prop) (σ : St) (body : List Stmt) (Q : Fl → St → Prop) : Prop := ∀ ok A s E, H A s.heap → Room n A → G.base.StaysIn s.heap → Inv G.base ok env σ s.heap →
  wpAny G.M A (execs body env) (After G env σ ok s Q) E s
def ExP1 (G : Gr) (n : Nat) (env : Env) (H : Around → Heap → Prop) (σ : St) (st : Stmt) (Q : Fl → St → Prop) : Prop := ∀ ok A s E, H A s.heap → Room n A → G.base.StaysIn s.heap → Inv G.base ok env σ s.heap →
  wpAny G.M A (exec st env) (After G env σ ok s Q) E s
theorem ExP.of {body : List Stmt} {Q : Fl → St → Prop} (h : Ex G n env σ body Q) : ExP G n env H σ body Q := fun ok A s E _ r k i => h ok A s E r k i
theorem Inv.hides {base h h' : Heap} {ok X : Addr → Prop} (i : Inv base ok env σ h) (x : Ext base h h') (hX : ∀ a, X a → h.get? a = none) (hX' : ∀ a, X a → (h'.get? a).isSome = true) : Inv base (fun b => ok b ∧ ¬ X b) env σ h' := by
  have i' := i.ext x
  have old : ∀ b, (h.get? b).isSome = true → ¬ X b := fun b q w => by rw [hX b w] at q; cases q
  refine ⟨i'.frame, i'.off, fun b e => ⟨i'.fresh b e, fun w => by have := hX' b w; rw [e] at this; cases this⟩, fun y d l => ?_, fun y b es l => ?_, i'.there, i'.once⟩
  · obtain ⟨u, p, q⟩ := i.vals y d l
    exact ⟨u, p.ext x, q.ext x fun b w z => ⟨⟨w.1, old b z⟩, w.2⟩⟩
  · obtain ⟨p, q, us, w, t⟩ := i.owns y b es l
    exact ⟨p.ext x, ⟨q, old b w.some⟩, us, x.own w, t.ext x fun b w z => ⟨⟨w.1, old b z⟩, w.2⟩⟩
theorem Inv.wide {base h : Heap} {ok ok' : Addr → Prop} (i : Inv base ok env σ h) (w : ∀ b, ok b → ok' b) (f : FreshOk ok' h) : Inv base ok' env σ h :=
  ⟨i.frame, i.off, f, fun y d l => let ⟨u, p, q⟩ := i.vals y d l; ⟨u, p, q.weak fun b z => ⟨w b z.1, z.2⟩⟩, fun y b es l => let ⟨p, q, us, z, t⟩ := i.owns y b es l; ⟨p, w b q, us, z, t.weak fun b z => ⟨w b z.1, z.2⟩⟩, i.there, i.once⟩
theorem turn_lt {j n : Nat} (h : j < n) : n + 1 - (j + 1) < n + 1 - j := by omega
/-- what holds between two turns -/
inductive FxI (G : Gr) (env : Env) (σ : St) (ok : Addr → Prop) (H : Around → Heap → Prop) (A : Around) (J : Nat → St → Prop) (Sx : Nat → Shared → Prop) (wr : Addr → Prop) (len : Nat) (s s₂ : Shared) (m : Nat) (s' : Shared) : Prop
  | mk (j : Nat) (σ₁ : St) (hj : j ≤ len) (hm : m = len + 1 - j) (hJ : J j σ₁) (hSx : Sx j s') (inv : Inv G.base ok env σ₁ s'.heap) (mv : Mv G.base (Wr env σ) s s') (hk : G.base.StaysIn s'.heap) (hq : H A s'.heap)
    (how : ∀ a ∈ owned σ₁, a ∈ owned σ ∨ s₂.heap.get? a = none) (hdom : ∀ b, ¬ wr b → s'.heap.get? b = none → s₂.heap.get? b = none) : FxI G env σ ok H A J Sx wr len s s₂ m s'
theorem ExP1.forX {target iter : Expr} {body : List Stmt} {pos : Pos} {ds : List D} {f : D → St → St} {Q : Fl → St → Prop} (R : Rd G.base env fp H) (hi : EvIX G n env σ iter target ds) (ht : ∀ d ∈ ds, AssD G n env target d (f d)) (J : Nat → St → Prop) (h0 : J 0 σ)
    (turn : ∀ i d σ₁, ds[i]? = some d → J i σ₁ → ExP G n env H (f d σ₁) body fun fl σ₂ => match fl with
      | .next | .cont => J (i + 1) σ₂
      | .brk => Q .next σ₂
      | .ret r => Q (.ret r) σ₂)
    (done : ∀ σ₁, J ds.length σ₁ → Q .next σ₁) (hs : ∀ x, foldedSetIterable iter env x = pure x := by intro _; rfl) : ExP1 G n env H σ (.For target iter body [] pos) Q := fun ok A s E hq0 r k i => by
  refine wpAny_For (wpAny_mono (hi ok A s E r k i) (fun x s₁ p₁ => wpAny_mono p₁ (fun it s₂ p₂ => ?_) fun _ _ x => x) fun _ _ x => x) hs
  obtain ⟨st, I, fpi, wr, wg, Sx, X, rfl, W, hst, hfp, hwr, hX, hwg⟩ := p₂
  have i₂ : Inv G.base (fun b => ok b ∧ ¬ X b) env σ s₂.heap := i.hides st.ext (fun a w => (hwr a (hX a w)).1) fun a w => (W.node 0 s₂ a hst (hX a w)).2
  have hwfp : ∀ a, wr a → ¬ fp a := fun a h1 h2 => by
    have := (R.apart A _ hq0 i.frame a h2).1
    rw [(hwr a h1).1] at this; cases this
  refine codeAny_forLoop_any (FxI G env σ (fun b => ok b ∧ ¬ X b) H A J Sx wr ds.length s s₂) ?_ (ds.length + 1) ⟨0, σ, Nat.zero_le _, rfl, h0, hst, i₂, st.mv, st.ext.base k, R.ext st.ext hq0, fun a w => .inl w, fun _ _ e => e⟩
  rintro m s' ⟨j, σ₁, hj, rfl, hJ, hSx, hinv, hmv, hk, hq, how, hdom⟩
  have hfpw : ∀ a, fpi a → ¬ Wr env σ₁ a := fun a q w => by
    rcases w with w | w
    · exact (hfp a q).2 (.inl w)
    · rcases how a w with w | w
      · exact (hfp a q).2 (.inr w)
      · have := (hfp a q).1; rw [w] at this; cases this
  have hwr2 : ∀ a, wr a → ¬ Wr env σ₁ a := fun a q => hfpw a (hwr a q).2
  have hok1 : ∀ a, (okO ok σ a ∧ (s₂.heap.get? a).isSome = true ∧ ¬ X a) → okO (fun b => ok b ∧ ¬ X b) σ₁ a := fun a q => ⟨⟨q.1.1, q.2.2⟩, fun w => (how a w).elim q.1.2 fun z => by rw [z] at q; cases q.2.1⟩
  by_cases hlt : j < ds.length
  · have hd : ds[j]? = some ds[j] := List.getElem?_eq_getElem hlt
    refine wpAny_mono (W.item j ds[j] s' _ (okO (fun b => ok b ∧ ¬ X b) σ₁) hd hSx hk hok1 hinv.freshO) (fun r' s₃ q => ?_) fun _ _ x => x
    obtain ⟨v, rfl, q⟩ := q
    refine wpAny_mono q (fun _ s₄ q => ?_) fun _ _ x => x
    obtain ⟨rp, hSx', mi⟩ := q
    have inv₄ := hinv.mvX mi hwr2 (fun a w nd q => (W.node j s' a hSx w).1 q.2 nd) (fun _ q => q) fun b e => by
      have nw : ¬ wr b := fun w => by have := (W.node _ s₄ b hSx' w).2; rw [e] at this; cases this
      exact hinv.fresh b (mi.dom b nw e)
    have mv₄ := MvI.after hmv mi (fun a w => (hwr a w).1) hwg
    have hk₄ := mv₄.base k i.off
    have hq₄ : H A s₄.heap := R.keep A _ _ hq fun b hb o e => mi.ext b o (fun z => hwfp b z hb) e
    refine wpAny_mono (ht ds[j] (List.getElem_mem hlt) σ₁ (fun b => ok b ∧ ¬ X b) A s₄ _ v r hk₄ inv₄ rp) (fun _ s₅ q => ?_) fun _ _ x => x
    obtain ⟨inv₅, mv₅, ow₅⟩ := q
    have hq₅ : H A s₅.heap := R.mv inv₄ mv₅ hq₄
    have mv₅' : Mv G.base (Wr env σ) s s₅ := mv₄.trans mv₅ fun a w => by
      rcases w with w | w
      · exact .inl (.inl w)
      · exact (how a w).imp .inr fun z => st.ext.none z
    have hk₅ := mv₅'.base k i.off
    have hSx₅ : Sx (j + 1) s₅ := W.frame (j + 1) s₄ s₅ _ hSx' mv₅ (fun a q => hfpw a q) fun a q nd w => by
      rcases w with w | w
      · exact node_not_frame inv₄.frame nd w
      · exact (hok1 a q).2 w
    refine wpAny_mono (turn j ds[j] σ₁ hd hJ (fun b => ok b ∧ ¬ X b) A s₅ _ hq₅ r hk₅ inv₅) (fun fl s₆ q => ?_) fun _ _ x => x
    obtain ⟨fl', σ₂, q, fi, inv₆, mv₆, hk₆, ow₆⟩ := q
    have mv₆' : Mv G.base (Wr env σ) s s₆ := mv₅'.trans mv₆ fun a w => by
      rcases w with w | w
      · exact .inl (.inl w)
      · exact (how a (ow₅ a w)).imp .inr fun z => st.ext.none z
    have dom₅ : ∀ b, ¬ wr b → s₅.heap.get? b = none → s₂.heap.get? b = none := fun b nz e => hdom b nz (mi.dom b nz (mv₅.dom b e))
    have how₆ : ∀ a ∈ owned σ₂, a ∈ owned σ ∨ s₂.heap.get? a = none := fun a w => by
      rcases ow₆ a w with w | w
      · exact how a (ow₅ a w)
      · exact .inr (dom₅ a (fun z => by have := (W.node _ _ a hSx₅ z).2; rw [w] at this; cases this) w)
    have how₆' : ∀ a ∈ owned σ₂, a ∈ owned σ ∨ s.heap.get? a = none := fun a w => (how₆ a w).imp id fun z => st.ext.none z
    have go : J (j + 1) σ₂ → ∃ m, m < ds.length + 1 - j ∧ FxI G env σ (fun b => ok b ∧ ¬ X b) H A J Sx wr ds.length s s₂ m s₆ := fun hq =>
      ⟨ds.length + 1 - (j + 1), turn_lt hlt, j + 1, σ₂, hlt, rfl, hq, W.frame (j + 1) s₅ s₆ _ hSx₅ mv₆ (fun a q w => by
          rcases w with w | w
          · exact (hfp a q).2 (.inl w)
          · exact hfpw a q (.inr (ow₅ a w))) (fun a q nd w => by
          rcases w with w | w
          · exact node_not_frame inv₅.frame nd w
          · exact (hok1 a q).2 (ow₅ a w)), inv₆, mv₆', hk₆, R.mv inv₅ mv₆ hq₅, how₆, fun b nz e => dom₅ b nz (mv₆.dom b e)⟩
    cases fl <;> cases fl' <;> first | exact fi.elim | skip
    · exact go q
    · exact ⟨.next, σ₂, q, trivial, inv₆.wide (fun b q => q.1) fun b e => i.fresh b (mv₆'.dom b e), mv₆', hk₆, how₆'⟩
    · exact go q
    · exact ⟨.ret _, σ₂, q, Rep.weak fi fun b q => q.1, inv₆.wide (fun b q => q.1) fun b e => i.fresh b (mv₆'.dom b e), mv₆', hk₆, how₆'⟩
  · have hjl : j = ds.length := Nat.le_antisymm hj (Nat.not_lt.mp hlt)
    subst hjl
    refine wpAny_mono (W.done s' _ hSx hk) (fun r' s₃ q => ?_) fun _ _ x => x
    obtain ⟨rfl, mi⟩ := q
    have mv₃ := MvI.after hmv mi (fun a w => (hwr a w).1) hwg
    have inv₃ := hinv.mvX (ok' := ok) mi hwr2 (fun a w nd q => (W.node _ s' a hSx w).1 q.2 nd) (fun b q => q.1) fun b e => i.fresh b (mv₃.dom b e)
    exact wpAny_execs_nil ⟨.next, σ₁, done σ₁ hJ, trivial, inv₃, mv₃, mv₃.base k i.off, fun a w => (how a w).imp id fun z => st.ext.none z⟩
theorem EvI.x {e target : Expr} {ds : List D} (h : EvI G n env σ e target ds) : EvIX G n env σ e target ds := fun ok A s E r k i =>
  wpAny_mono (h ok A s E r k i) (fun x s₁ p => wpAny_mono p (fun it s₂ q => by
    obtain ⟨st, I, fp, wr, wg, Sx, e, W, h1, h2, h3, h4⟩ := q
    exact ⟨st, I, fp, wr, wg, Sx, fun _ => False, e, ⟨fun i s s' W' a b c d => W.frame i s s' W' a b c fun x y => d x ⟨y.1, y.2, fun z => z⟩, fun i s a x y => ⟨fun _ => (W.node i s a x y).1, (W.node i s a x y).2⟩, fun i d s E ok' a b c x => W.item i d s E ok' a b c fun y z => x y ⟨z.1, z.2, fun z => z⟩, W.done⟩, h1, h2, h3, fun _ z => z.elim, h4⟩) fun _ _ x => x) fun _ _ x => x
theorem ExP1.for {target iter : Expr} {body : List Stmt} {pos : Pos} {ds : List D} {f : D → St → St} {Q : Fl → St → Prop} (R : Rd G.base env fp H) (hi : EvI G n env σ iter target ds) (ht : ∀ d ∈ ds, AssD G n env target d (f d)) (J : Nat → St → Prop) (h0 : J 0 σ)
    (turn : ∀ i d σ₁, ds[i]? = some d → J i σ₁ → ExP G n env H (f d σ₁) body fun fl σ₂ => match fl with
      | .next | .cont => J (i + 1) σ₂
      | .brk => Q .next σ₂
      | .ret r => Q (.ret r) σ₂)
    (done : ∀ σ₁, J ds.length σ₁ → Q .next σ₁) (hs : ∀ x, foldedSetIterable iter env x = pure x := by intro _; rfl) : ExP1 G n env H σ (.For target iter body [] pos) Q :=
  ExP1.forX R hi.x ht J h0 turn done hs
theorem rdT {base : Heap} : Rd base env (fun _ => False) (fun _ _ => True) := ⟨fun _ _ _ _ _ => trivial, fun _ _ _ _ _ z => z.elim⟩
theorem Ex1.for {target iter : Expr} {body : List Stmt} {pos : Pos} {ds : List D} {f : D → St → St} {Q : Fl → St → Prop} (hi : EvI G n env σ iter target ds) (ht : ∀ d ∈ ds, AssD G n env target d (f d)) (J : Nat → St → Prop) (h0 : J 0 σ)
    (turn : ∀ i d σ₁, ds[i]? = some d → J i σ₁ → Ex G n env (f d σ₁) body fun fl σ₂ => match fl with
      | .next | .cont => J (i + 1) σ₂
      | .brk => Q .next σ₂
      | .ret r => Q (.ret r) σ₂)
    (done : ∀ σ₁, J ds.length σ₁ → Q .next σ₁) (hs : ∀ x, foldedSetIterable iter env x = pure x := by intro _; rfl) : Ex1 G n env σ (.For target iter body [] pos) Q := fun ok A s E r k i =>
  ExP1.forX rdT hi.x ht J h0 (fun i d σ₁ h1 h2 => .of (turn i d σ₁ h1 h2)) done hs ok A s E trivial r k i
end
end Mine
end
section
open PySem PySem.W PyProof.Rows PySem.Calls
set_option maxRecDepth 100000
namespace Mine
section
variable {G : Gr} {n : Nat} {env : Env} {σ : St}
def plainIter (T : String) : Bool := !(["enumerate", "zip", "dict_itemiterator", "dict_reverseitemiterator", "odict_iterator", "itertools.zip_longest", "itertools.pairwise", "list", "tuple", "slice", "range"] : List String).contains T
theorem letOwned_plain {M : Model} {A : Around} {E : Value → Shared → Prop} {s : Shared} {target : Expr} {I : Addr} {v : Value} {o : Obj} {T : String} {Q : Unit → Shared → Prop} (ho : s.heap.get? I = some o) (hc : o.cls = .type T) (hT : plainIter T = true)
    (h : Q () s) : wpAny M A (letOwnedTupleGo target (.ref I) v) Q E s := by
  have hT' : (["enumerate", "zip", "dict_itemiterator", "dict_reverseitemiterator", "odict_iterator", "itertools.zip_longest", "itertools.pairwise"] : List String).contains T = false := by
    unfold plainIter at hT
    simp only [List.contains_cons, List.contains_nil, Bool.or_false, Bool.not_eq_true', Bool.or_eq_false_iff] at hT ⊢
    exact ⟨hT.1, hT.2.1, hT.2.2.1, hT.2.2.2.1, hT.2.2.2.2.1, hT.2.2.2.2.2.1, hT.2.2.2.2.2.2.1⟩
  have go : wpAny M A (match (Value.ref I, v) with
      | (.ref r, .ref a) => (do
        let o ← load r
        match o.cls, o.data with
        | .type n, .fields vs =>
          if ["enumerate", "zip", "dict_itemiterator", "dict_reverseitemiterator", "odict_iterator", "itertools.zip_longest", "itertools.pairwise"].contains n && vs[0]? == some (rawInt a) then
            rule "for.unpacks-the-owned-tuple"
            updateField r 0 .none
        | _, _ => pure () : Sem Unit)
      | _ => pure ()) Q E s := by
    cases v <;> first | exact wpAny_pure h | skip
    refine wpAny_bind (wpAny_load ho ?_)
    rw [hc]
    cases o.data <;> first | exact wpAny_pure h | skip
    simp only [hT', Bool.false_and, Bool.false_eq_true, if_false]
    exact wpAny_pure h
  cases target <;> first | exact wpAny_pure h | exact go
theorem MvI.of_keep {base : Heap} {I : Addr} {s : Shared} {h' : Heap} {tk : Nat} (h : ∀ b o, b ∉ [I] → s.heap.get? b = some o → h'.get? b = some o) : MvI base (· = I) (fun _ => False) s { s with heap := h', toks := tk } :=
  ⟨fun b o w e => ⟨o, h b o (by simpa using w) e, rfl, rfl, fun _ => rfl⟩, fun b w e => (by
    cases q : s.heap.get? b with
    | none => rfl
    | some o => (have := h b o (by simpa using w) q; rw [show h'.get? b = none from e] at this; cases this)), rfl, fun _ _ _ e => e, fun q => q⟩
theorem Itr.of_walks {A : Around} {ok : Addr → Prop} {target : Expr} {I : Addr} {ds ds' : List D} {vs : List Value} {fpl : List Addr} {m : Nat} {P : Nat → Value → Prop} {Stt : Nat → Heap → Prop} (W : Walks G.prog G.w A I fpl [I] m P Stt) (hm : m = ds.length)
    (hfp : ∀ b ∈ fpl, b = I ∨ (ok b ∧ ∀ i h, Stt i h → IsNode h b)) (hobj : ∀ i h, Stt i h → ∃ o T, h.get? I = some o ∧ o.cls = .type T ∧ isDict o.data = false ∧ plainIter T = true)
    (hP : ∀ i v d h, ds[i]? = some d → P i v → RepAll ok h vs ds' → Rep ok h v d) :
    Itr G A ok target I ds (· = I) (· = I) (fun _ => False) (fun i s => Stt i s.heap ∧ RepAll ok s.heap vs ds') where
  frame := fun i s s' W' hs mv hf hn => by
    refine ⟨W.frame i s.heap s'.heap hs.1 fun b hb o e => ?_, hs.2.extBut mv.ext hn fun _ q _ => q⟩
    rcases hfp b hb with rfl | ⟨q1, q2⟩
    · obtain ⟨o₁, T, e₁, _, d₁, _⟩ := hobj i _ hs.1
      rw [e] at e₁; cases e₁
      obtain ⟨o', e', _, _, k'⟩ := mv.ext b o (hf b rfl) e
      rw [e', k' (.inr d₁)]
    · have nd := q2 i _ hs.1
      obtain ⟨o', e', _, _, k'⟩ := mv.ext b o (hn b q1 nd) e
      rw [e', k' (.inr ?_)]
      cases nd with
      | list l => obtain ⟨o₂, e₂, _, k, d⟩ := l; rw [e] at e₂; cases e₂; rw [d]; rfl
      | tup l => obtain ⟨o₂, e₂, _, k, d⟩ := l; rw [e] at e₂; cases e₂; rw [d]; rfl
      | slice e₂ _ d => rw [e] at e₂; cases e₂; rw [d]; rfl
      | rng e₂ => unfold IsRange at e₂; rw [e] at e₂; cases e₂; rfl
  node := fun i s a hs ha => by
    subst ha
    obtain ⟨o, T, e, c, _, hT⟩ := hobj i _ hs.1
    refine ⟨fun nd => ?_, by rw [e]; rfl⟩
    cases nd with
    | list l => obtain ⟨o₂, e₂, c₂, _⟩ := l; rw [e] at e₂; cases e₂; rw [c] at c₂; cases c₂; cases hT
    | tup l => obtain ⟨o₂, e₂, c₂, _⟩ := l; rw [e] at e₂; cases e₂; rw [c] at c₂; cases c₂; cases hT
    | slice e₂ c₂ _ => rw [e] at e₂; cases e₂; rw [c] at c₂; cases c₂; cases hT
    | rng e₂ => unfold IsRange at e₂; rw [e] at e₂; cases e₂; cases c; cases hT
  item := fun i d s E ok' hd hs k hok hfr => by
    have hlt : i < m := by rw [hm]; exact (List.getElem?_eq_some_iff.mp hd).1
    refine W.item i s _ E hlt hs.1 fun v h' tk hp hst hk => ?_
    have mi : MvI G.base (· = I) (fun _ => False) s { s with heap := h', toks := tk } := .of_keep hk
    have rs : RepAll ok h' vs ds' := hs.2.extBut mi.ext (fun a q nd z => by
      obtain ⟨o, T, e, c, _, hT⟩ := hobj i _ hs.1
      subst z
      cases nd with
      | list l => obtain ⟨o₂, e₂, c₂, _⟩ := l; rw [e] at e₂; cases e₂; rw [c] at c₂; cases c₂; cases hT
      | tup l => obtain ⟨o₂, e₂, c₂, _⟩ := l; rw [e] at e₂; cases e₂; rw [c] at c₂; cases c₂; cases hT
      | slice e₂ c₂ _ => rw [e] at e₂; cases e₂; rw [c] at c₂; cases c₂; cases hT
      | rng e₂ => unfold IsRange at e₂; rw [e] at e₂; cases e₂; cases c; cases hT) fun _ q _ => q
    obtain ⟨o, T, e, c, _, hT⟩ := hobj _ _ hst
    exact ⟨v, rfl, letOwned_plain e c hT ⟨(hP i v d h' hd hp rs).weak hok, ⟨hst, rs⟩, mi⟩⟩
  done := fun s E hs k => W.done s _ E (hm ▸ hs.1) fun h' tk hk => ⟨rfl, .of_keep hk⟩
  self := fun i s Q E hs hq => W.self i s Q E hs.1 hq
/-- a value that may stand in a for's head -/
def IterD (G : Gr) (n : Nat) (d : D) (ds : List D) : Prop := ∀ ok A s E v target, Room n A → G.base.StaysIn s.heap → FreshOk ok s.heap → Rep ok s.heap v d →
  wpAny G.M A (pyIter v) (fun it s' => Stp G.base s s' ∧ ∃ I Sx, it = .ref I ∧ s.heap.get? I = none ∧ (s'.heap.get? I).isSome = true ∧
    Itr G A (fun a => ok a ∧ (s'.heap.get? a).isSome = true) target I ds (· = I) (· = I) (fun _ => False) Sx ∧ Sx 0 s') E s
theorem EvI.of_ev {e target : Expr} {d : D} {ds : List D} (h : Ev G n env σ e d) (hd : IterD G n d ds) : EvI G n env σ e target ds := fun ok A s E r k i =>
  wpAny_mono (h ok A s E r k i) (fun v s₁ p₁ => wpAny_mono (hd _ A s₁ E v target r (p₁.1.ext.base k) (i.ext p₁.1.ext).freshO p₁.2) (fun it s₂ p₂ => by
    obtain ⟨st, I, Sx, rfl, hI, hI', W, hs⟩ := p₂
    have h0 : s.heap.get? I = none := p₁.1.ext.none hI
    refine ⟨p₁.1.trans st, I, _, _, _, Sx, rfl, W, hs, fun a ha => ?_, fun a ha => ?_, fun g hg => hg.elim⟩
    · subst ha
      refine ⟨hI', ?_⟩
      rintro ((w | ⟨x, w⟩) | w)
      · obtain ⟨m, o, _, _, q, _⟩ := i.frame.ns; rw [← w, h0] at q; cases q
      · obtain ⟨_, o, q, _⟩ := i.frame.cells x a w; rw [h0] at q; cases q
      · obtain ⟨vs, l⟩ := i.there a w; have := l.some; rw [h0] at this; cases this
    · subst ha; exact ⟨h0, rfl⟩) fun _ _ x => x) fun _ _ x => x
theorem repAll_alloc {ok : Addr → Prop} {h : Heap} {vs : List Value} {ds : List D} (r : RepAll ok h vs ds) : RepAll (fun a => ok a ∧ (h.get? a).isSome = true) h vs ds := r.ext (base := h) .refl fun a q z => ⟨q, z⟩
theorem IterD.list {ds : List D} : IterD G n (.list ds) ds := fun ok A s E v target r k fr rp => by
  cases rp with
  | @list a vs _ o l rs =>
    have hne : a ≠ s.heap.objs.size := by obtain ⟨_, e, _⟩ := l; exact Nat.ne_of_lt (Heap.lt_size e)
    refine wpAny_pyIter_list l ?_
    have st : Stp G.base s { s with heap := s.heap.push { cls := .type "list_iterator", data := .fields #[.ref a, .int 0 0] } } := .push
    refine ⟨st, s.heap.objs.size, _, rfl, fresh_get, by rw [Heap.get?_push_size _ rfl]; rfl, Itr.of_walks (vs := vs) (ds' := ds) (Walks.list r.handled s.heap.objs.size a hne vs.toArray) (by rw [List.size_toArray, rs.length]) ?_ ?_ ?_,
      ⟨⟨_, Heap.get?_push_size _ rfl, rfl, rfl⟩, st.ext.list l⟩, ?_⟩
    · intro b hb
      rcases List.mem_cons.mp hb with rfl | hb
      · exact .inl rfl
      · rw [List.mem_singleton.mp hb]
        exact .inr ⟨⟨o, by obtain ⟨_, e, _⟩ := st.ext.list l; rw [e]; rfl⟩, fun i h q => .list q.2⟩
    · rintro i h ⟨⟨o', e, c, d⟩, _⟩
      exact ⟨o', _, e, c, by rw [d]; rfl, by decide⟩
    · intro i v d h hd hp rs'
      obtain ⟨u, e, rp⟩ := rs'.get hd
      have : vs[i]? = some v := by simpa using hp
      rw [this] at e; cases e; exact rp
    · exact repAll_alloc (rs.stp st)
/-- a text's signs -/
def signs (x : Str) : List D := x.cps.toList.map fun c => .str ⟨#[c]⟩
end
end Mine
end
section
open PySem PySem.W PyProof.Rows PySem.Calls
set_option maxRecDepth 100000
namespace Mine
/-- a def of the program by its place -/
def defAt (p : Program) (i : Nat) : DefRec := match p.main.body.drop i with
  | .FunctionDef name params body _ _ _ scope _ _ pos :: _ => ⟨name, params, body, scope, pos⟩
  | _ => ⟨⟨#[]⟩, ⟨[], [], none, [], [], none, []⟩, [], { kind := .function, names := [], isGenerator := false, isCoroutine := false, more := [] }, ⟨0, 0, 0, 0⟩⟩
/-- the frame of a def -/
structure FEnv (env : Env) (sc : Scope) : Prop where
  scope : env.scope = sc
  cells : ∀ x, sc.names.lookup x = some .cell → (env.cells.lookup x).isSome = true
section
variable {G : Gr} {n : Nat} {env : Env} {σ : St} {sc : Scope}
theorem FEnv.kind (F : FEnv env sc) {x : Str} {k : NameKind} (h : sc.names.lookup x = some k) : env.kindOf x = some k := by unfold Env.kindOf; rw [F.scope]; exact h
theorem FEnv.loc (F : FEnv env sc) {x : Str} (h : sc.names.lookup x = some .local) : Storable env x := .inl (F.kind h)
/-- the def stands in the ground -/
structure FnAt (G : Gr) (d : DefRec) (a : Addr) : Prop where
  name : G.mg d.name = some (.ref a)
  obj : ∃ o pm code doc, G.base.get? a = some o ∧ o.data = .func (docDef d.name d.params d.body d.scope pm code doc) ∧ G.base.CodeRec code d.name
theorem bindL_other (kd : Str → Option NameKind) {x : Str} : ∀ (bs : List (Str × Value)) (m : Str → Option Value), (∀ p ∈ bs, p.1 ≠ x) → bindL kd bs m x = m x
  | [], m, _ => rfl
  | (y, v) :: r, m, h => by
    unfold bindL
    rw [bindL_other kd r _ fun p hp => h p (.tail _ hp)]
    have : x ≠ y := fun e => h (y, v) (.head _) e.symm
    split <;> simp [this]
theorem bindC_other (kd : Str → Option NameKind) {x : Str} : ∀ (bs : List (Str × Value)) (m : Str → Option Value), (∀ p ∈ bs, p.1 ≠ x) → bindC kd bs m x = m x
  | [], m, _ => rfl
  | (y, v) :: r, m, h => by
    unfold bindC
    rw [bindC_other kd r _ fun p hp => h p (.tail _ hp)]
    have : x ≠ y := fun e => h (y, v) (.head _) e.symm
    split <;> simp [this]
theorem bindL_get (kd : Str → Option NameKind) {x : Str} {v : Value} (hk : kd x = some .local) : ∀ (bs : List (Str × Value)) (m : Str → Option Value), (bs.map (·.1)).Nodup → (x, v) ∈ bs → bindL kd bs m x = some v
  | (y, u) :: r, m, nd, h => by
    unfold bindL
    rw [List.map_cons, List.nodup_cons] at nd
    rcases List.mem_cons.mp h with e | h
    · cases e
      rw [bindL_other kd r _ fun p hp e => nd.1 (List.mem_map.mpr ⟨p, hp, e⟩), if_pos hk]; simp
    · exact bindL_get kd hk r _ nd.2 h
theorem bindC_get (kd : Str → Option NameKind) {x : Str} {v : Value} (hk : kd x = some .cell) : ∀ (bs : List (Str × Value)) (m : Str → Option Value), (bs.map (·.1)).Nodup → (x, v) ∈ bs → bindC kd bs m x = some v
  | (y, u) :: r, m, nd, h => by
    unfold bindC
    rw [List.map_cons, List.nodup_cons] at nd
    rcases List.mem_cons.mp h with e | h
    · cases e
      rw [bindC_other kd r _ fun p hp e => nd.1 (List.mem_map.mpr ⟨p, hp, e⟩), if_neg (by rw [hk]; decide)]; simp
    · exact bindC_get kd hk r _ nd.2 h
theorem repAll_zip {ok : Addr → Prop} {h : Heap} {x : Str} {d : D} : ∀ {xs : List Str} {vs : List Value} {ds : List D}, RepAll ok h vs ds → (xs.zip (ds.map Slot.val)).lookup x = some (.val d) → ∃ v, (x, v) ∈ xs.zip vs ∧ Rep ok h v d
  | [], _, _, _, q => by cases q
  | y :: ys, _, _, .nil, q => by cases q
  | y :: ys, _, _, .cons (v := v) a r, q => by
    rw [List.map_cons, List.zip_cons_cons, List.lookup_cons] at q
    cases e : x == y with
    | true => rw [e] at q; cases q; rw [beq_iff_eq.mp e]; exact ⟨v, List.mem_cons_self, a⟩
    | false =>
      rw [e] at q
      obtain ⟨u, m, rp⟩ := repAll_zip r q
      exact ⟨u, List.mem_cons_of_mem _ m, rp⟩
theorem owned_zip : ∀ (xs : List Str) (ds : List D), owned (xs.zip (ds.map Slot.val)) = []
  | [], _ => rfl
  | _ :: _, [] => rfl
  | x :: xs, d :: ds => by rw [List.map_cons, List.zip_cons_cons, owned_cons]; exact owned_zip xs ds
theorem lookup_zip_own {x : Str} {a : Addr} {es : List D} : ∀ (xs : List Str) (ds : List D), (xs.zip (ds.map Slot.val)).lookup x ≠ some (.own a es)
  | [], _ => nofun
  | _ :: _, [] => nofun
  | y :: ys, d :: ds => by
    rw [List.map_cons, List.zip_cons_cons, List.lookup_cons]
    cases x == y with
    | true => exact nofun
    | false => exact lookup_zip_own ys ds
/-- what a call of a def gives, by its body -/
theorem CallD.def {d : DefRec} {a : Addr} {ds : List D} {r : D} (F : FnAt G d a) (hds : d.params.args.length = ds.length)
    (hbind : ∀ pm code doc vs, vs.length = ds.length → bindArgs (docDef d.name d.params d.body d.scope pm code doc) ⟨vs, []⟩ = pure ((d.params.args.map (·.arg)).zip vs))
    (hkind : (d.params.args.all fun y => d.scope.names.lookup y.arg == some .local || d.scope.names.lookup y.arg == some .cell) = true) (hnd : (d.params.args.map (·.arg)).Nodup)
    (h : ∀ env, FEnv env d.scope → Ex G n env ((d.params.args.map (·.arg)).zip (ds.map Slot.val)) d.body fun fl _ => fl = .ret r)
    (hco : d.scope.isCoroutine = false) (hgen : d.scope.isGenerator = false) (hk : d.scope.kind = .function) : CallD G (n + 1) (.ref a) ds r := fun ok A s E vs rm k fr rs => by
  obtain ⟨o, pm, code, doc, ho, hd, hcd⟩ := F.obj
  refine wpAny_call (codeAny_call_cells (fd := docDef d.name d.params d.body d.scope pm code doc) (body := d.body) (vals := vs) (binds := (d.params.args.map (·.arg)).zip vs) (by have := rm.depth; omega) (k _ _ ho) hd (G.nolimit.keeps k) (hcd.keeps k) rfl (hbind _ _ _ _ rs.length) rfl ?_ (fun s₁ x => ?_) hco hgen hk)
  · intro p hp
    have hm : p.1 ∈ d.params.args.map (·.arg) := (List.of_mem_zip hp).1
    obtain ⟨y, hy, e⟩ := List.mem_map.mp hm
    have := List.all_eq_true.mp hkind y hy
    rw [e] at this
    exact kindsX (scope := d.scope) (binds := [(p.1, p.2)]) (by simpa using this) _ (p.1, p.2) (by simp)
  · generalize henv : callEnvC (docDef d.name d.params d.body d.scope pm code doc) s.heap.objs.size a = env at x ⊢
    have hsc : env.scope = d.scope := by rw [← henv]; rfl
    have hcs : env.cells = cellsFrom (s.heap.objs.size + 1) d.scope.names [] := by rw [← henv]; rfl
    have FE : FEnv env d.scope := ⟨hsc, fun y hy => by rw [hcs]; exact cellsFrom_some _ _ _ (.inl hy)⟩
    have hnoL : ∀ b, s.heap.objs.size ≤ b → s.heap.get? b = none := fun b hb => by
      cases q : s.heap.get? b with
      | none => rfl
      | some o => exact absurd (Nat.lt_of_lt_of_le (Heap.lt_size q) hb) (Nat.lt_irrefl _)
    have hfw : ∀ b, FrW env b → s.heap.get? b = none := fun b w => by
      rcases w with w | ⟨y, w⟩
      · exact hnoL b (w ▸ x.toInCall.fresh)
      · exact hnoL b (Nat.le_of_lt (Nat.lt_of_le_of_lt x.toInCall.fresh (x.above y b (mem_of_lookup w))))
    have hvl : ((d.params.args.map (·.arg)).zip vs).map (·.1) = d.params.args.map (·.arg) := by
      rw [List.map_fst_zip]; rw [List.length_map, hds, rs.length]; exact Nat.le_refl _
    have hnd' : (((d.params.args.map (·.arg)).zip vs).map (·.1)).Nodup := by rw [hvl]; exact hnd
    have st : Stp G.base s s₁ := by
      obtain ⟨h', tk, rfl, hkp⟩ := x.done
      exact .heap hkp
    have inv : Inv G.base ok env ((d.params.args.map (·.arg)).zip (ds.map Slot.val)) s₁.heap := by
      refine ⟨⟨by rw [hsc]; exact hk, ⟨_, x.toInCall.ns⟩, fun y c l => ⟨_, x.cell y c l⟩, x.apart, fun y c l => Nat.ne_of_gt (x.above y c (mem_of_lookup l)), by rw [← henv]; rfl, by rw [← henv]; rfl⟩,
        fun b w => ?_, fr.stp st.ext, fun y e l => ?_, fun y b es l => absurd l (lookup_zip_own _ _), fun b w => ?_, ?_⟩
      · rw [Wr, owned_zip] at w
        have := hfw b (w.elim id fun z => nomatch z)
        cases q : G.base.get? b with
        | none => rfl
        | some o => rw [k b o q] at this; cases this
      · obtain ⟨v, hm, rp⟩ := repAll_zip rs l
        refine ⟨v, ?_, (rp.stp st).weak fun b q => ⟨q, by rw [owned_zip]; simp⟩⟩
        have hy : y ∈ d.params.args.map (·.arg) := (List.of_mem_zip hm).1
        obtain ⟨z, hz, e⟩ := List.mem_map.mp hy
        have hkd := List.all_eq_true.mp hkind z hz
        rw [e] at hkd
        rcases Bool.or_eq_true_iff.mp hkd with q | q
        · have q' : env.kindOf y = some .local := FE.kind (by simpa using q)
          exact .inl ⟨q', _, x.toInCall.ns, bindL_get _ q' _ _ hnd' hm⟩
        · have q0 : d.scope.names.lookup y = some .cell := by simpa using q
          have q' : env.kindOf y = some .cell := FE.kind q0
          obtain ⟨c, hc⟩ := Option.isSome_iff_exists.mp (FE.cells y q0)
          refine .inr ⟨.inl q', c, hc, ?_⟩
          have := x.cell y c hc
          rw [bindC_get _ q' _ _ hnd' hm] at this
          exact this
      · rw [owned_zip] at w; cases w
      · rw [owned_zip]; exact List.nodup_nil
    refine wpAny_mono (h env FE ok _ s₁ (fun _ _ => False) rm.deeper (st.ext.base k) inv) (fun f s₂ q => ?_) fun _ _ x => x.elim
    obtain ⟨fl, σ', rfl, fi, _, mv, _, _⟩ := q
    cases f with
    | ret v =>
      refine ⟨?_, fi⟩
      have m2 : Mv G.base (FrW env) s s₂ := ((st.mv (W := FrW env))).trans mv fun b w => by rw [Wr, owned_zip] at w; exact .inl (w.elim id fun z => nomatch z)
      exact m2.stp hfw
    | _ => exact fi.elim
end
end Mine
end
section
open PySem PySem.W PyProof.Rows PySem.Calls
set_option maxRecDepth 100000
namespace Mine
section
variable {G : Gr} {n : Nat} {env : Env} {σ : St}
theorem BinD.add {x y : Int} : BinD G n .Add (.int x) (.int y) (.int (x + y)) := fun ok A s E va vb r k f ra rb => by
  cases ra; cases rb; exact P.add_int ⟨.tok, .int _ _⟩
theorem BinD.sub {x y : Int} : BinD G n .Sub (.int x) (.int y) (.int (x - y)) := fun ok A s E va vb r k f ra rb => by
  cases ra; cases rb; exact P.sub_int ⟨.tok, .int _ _⟩
theorem BinD.mod {x y : Int} (h : y ≠ 0) : BinD G n .Mod (.int x) (.int y) (.int (x.fmod y)) := fun ok A s E va vb r k f ra rb => by
  cases ra; cases rb; exact mod_int' h ⟨.tok, .int _ _⟩
theorem BinD.fdiv {x y : Int} (h : y ≠ 0) (hs : y.natAbs < 1073741824) : BinD G n .FloorDiv (.int x) (.int y) (.int (x.fdiv y)) := fun ok A s E va vb r k f ra rb => by
  cases ra; cases rb; exact floordiv_int h ⟨.tok, .int _ _⟩ (.inl (PyProof.noPylong_small hs))
theorem CmpD.eq_int {x y : Int} : CmpD G n .Eq (.int x) (.int y) (x == y) := fun ok A s E va vb r k f ra rb => by
  cases ra; cases rb; exact P.eq_int ⟨.refl, rfl⟩
theorem CmpD.ne_int {x y : Int} : CmpD G n .NotEq (.int x) (.int y) (x != y) := fun ok A s E va vb r k f ra rb => by
  cases ra; cases rb; exact P.ne_int ⟨.refl, rfl⟩
theorem CmpD.lt_int {x y : Int} : CmpD G n .Lt (.int x) (.int y) (decide (x < y)) := fun ok A s E va vb r k f ra rb => by
  cases ra; cases rb; exact P.lt_int ⟨.refl, rfl⟩
theorem CmpD.le_int {x y : Int} : CmpD G n .LtE (.int x) (.int y) (decide (x ≤ y)) := fun ok A s E va vb r k f ra rb => by
  cases ra; cases rb; exact P.le_int ⟨.refl, rfl⟩
theorem TruD.bool {b : Bool} : TruD G n (.bool b) b := fun ok A s E v r k f rv => by
  cases rv; exact wpAny_truthy_bool ⟨.refl, rfl⟩
theorem Ev.neg {e : Expr} {p : Pos} {x : Int} (h : Ev G n env σ e (.int x)) : Ev G n env σ (.UnaryOp .USub e p) (.int (-x)) := fun ok A s E r k i =>
  UnaryOp_ (wpAny_mono (h ok A s E r k i) (fun v s₁ p₁ => by
    obtain ⟨st, rp⟩ := p₁; cases rp
    exact P.neg_int ⟨st.trans .tok, .int _ _⟩) fun _ _ x => x)
theorem cps_eq_iff {x y : Str} : (x.cps.toList == y.cps.toList) = decide (x = y) := by
  obtain ⟨⟨x⟩⟩ := x; obtain ⟨⟨y⟩⟩ := y
  by_cases h : x = y
  · subst h; simp
  · have : ¬ ((⟨⟨x⟩⟩ : Str) = ⟨⟨y⟩⟩) := fun e => h (by injection e with e; injection e)
    simp [h]
theorem CmpD.eq_str {x y : Str} : CmpD G n .Eq (.str x) (.str y) (decide (x = y)) := fun ok A s E va vb r k f ra rb => by
  cases ra; cases rb; exact P.eq_str (by rw [cps_eq_iff]; exact ⟨.refl, rfl⟩)
theorem CmpD.ne_str {x y : Str} : CmpD G n .NotEq (.str x) (.str y) (!decide (x = y)) := fun ok A s E va vb r k f ra rb => by
  cases ra; cases rb; exact P.ne_str (by rw [bne, cps_eq_iff]; exact ⟨.refl, rfl⟩)
theorem BinD.add_str {x y : Str} (h : x.length + y.length ≤ sizeLine) : BinD G n .Add (.str x) (.str y) (.str (x ++ y)) := fun ok A s E va vb r k f ra rb => by
  cases ra; cases rb
  refine P.add_str ?_
  have hl : ∀ z : Str, (z.length == 0) = true → z = Str.empty := fun z hz => by
    obtain ⟨⟨l⟩⟩ := z
    cases l with
    | nil => rfl
    | cons a b => cases hz
  split
  · rename_i h0
    rw [hl x h0]
    exact ⟨.refl, by rw [show Str.empty ++ y = y from by obtain ⟨⟨l⟩⟩ := y; exact congrArg Str.mk (by simp [Str.empty])]; exact .str _ _⟩
  · split
    · rename_i h0
      rw [hl y h0]
      exact ⟨.refl, by rw [show x ++ Str.empty = x from by obtain ⟨⟨l⟩⟩ := x; exact congrArg Str.mk (by simp [Str.empty])]; exact .str _ _⟩
    · exact ⟨by rw [show (x ++ y).length = x.length + y.length from Array.size_append ..]; exact h, .tok, .str _ _⟩
theorem CallD.chr {i : Int} (h0 : 0 ≤ i) (h1 : i ≤ 1114111) : CallD G n (.builtin "chr") [.int i] (.str ⟨#[i.toNat]⟩) := fun ok A s E vs r k f rs => by
  cases rs with
  | cons a t => cases t; cases a; exact chr_of_range h0 h1 ⟨.tok, .str _ _⟩
theorem CallD.len_str {x : Str} (h : x.length < 2 ^ 62) : CallD G n (.builtin "len") [.str x] (.int x.length) := fun ok A s E vs r k f rs => by
  cases rs with
  | cons a t => cases t; cases a; exact P.len_str (by omega) ⟨.tok, .int _ _⟩
theorem CallD.len_list {ds : List D} (h : ds.length < 2 ^ 62) : CallD G n (.builtin "len") [.list ds] (.int ds.length) := fun ok A s E vs r k f rs => by
  cases rs with
  | cons a t =>
    cases t
    cases a with
    | list o l rs => exact PyProof.Rows.len_list l (by rw [List.size_toArray, rs.length]; omega) ⟨.tok, by rw [List.size_toArray, rs.length]; exact .int _ _⟩
theorem IdxD.list {ds : List D} {i : Int} {d : D} (h0 : 0 ≤ i) (h1 : i < 2 ^ 62) (h : ds[i.toNat]? = some d) : IdxD G n (.list ds) (.int i) d := fun ok A s E vo vi r k f ro ri => by
  cases ri
  cases ro with
  | list o l rs =>
    obtain ⟨v, hv, rv⟩ := rs.get h
    exact wpAny_getItem_list l h0 (by omega) (by simpa using hv) ⟨.refl, rv⟩
theorem typeIs_list {ok : Addr → Prop} {s : Shared} {v : Value} {ds : List D} (r : Rep ok s.heap v (.list ds)) : s.TypeIs v "list" := by
  cases r with
  | list o l rs => exact l.typeIs
theorem typeIs_str' {ok : Addr → Prop} {s : Shared} {v : Value} {x : Str} (r : Rep ok s.heap v (.str x)) : s.TypeIs v "str" := by
  cases r; exact typeIs_str _ _ _
theorem Ev.item {o i : Expr} {p : Pos} {ds : List D} {di d : D} (ho : Ev G n env σ o (.list ds)) (hi : Ev G n env σ i di) (hx : IdxD G n (.list ds) di d)
    (hs : ∀ a b, ∃ ops, subscripted i false a b = operate ops (getItem a b) := by intro a b; first | exact ⟨[a, b], rfl⟩ | exact ⟨[b, a], rfl⟩) : Ev G n env σ (.Subscript o i p) d :=
  .sub ho hi hx (fun _ _ _ r => typeIs_list r) slot_list_getitem.lookup hs
theorem Ev.itemS {o i : Expr} {p : Pos} {x : Str} {di d : D} (ho : Ev G n env σ o (.str x)) (hi : Ev G n env σ i di) (hx : IdxD G n (.str x) di d)
    (hs : ∀ a b, ∃ ops, subscripted i false a b = operate ops (getItem a b) := by intro a b; first | exact ⟨[a, b], rfl⟩ | exact ⟨[b, a], rfl⟩) : Ev G n env σ (.Subscript o i p) d :=
  .sub ho hi hx (fun _ _ _ r => typeIs_str' r) F.slot_str_getitem.lookup hs
end
end Mine
end
section
open PySem PySem.W PyProof.Rows PySem.Calls
set_option maxRecDepth 100000
namespace Mine
mutual
def D.py : D → PyData
  | .none => .none
  | .bool b => .bool b
  | .int i => .int i
  | .str x => .str x
  | .tuple ds => .tuple (D.pys ds)
  | .list ds => .list (D.pys ds)
  | _ => .dict []
def D.pys : List D → List PyData
  | [] => []
  | d :: ds => D.py d :: D.pys ds
end
mutual
/-- none, ints, texts, and rows of such, to a depth -/
def D.data : Nat → D → Bool
  | _, .none => true
  | _, .bool _ => true
  | _, .int _ => true
  | _, .str x => PyData.strOk x
  | n + 1, .tuple ds => D.datas n ds
  | n + 1, .list ds => D.datas n ds
  | _, _ => false
def D.datas : Nat → List D → Bool
  | _, [] => true
  | n, d :: ds => D.data n d && D.datas n ds
end
mutual
theorem rep_reads {ok : Addr → Prop} {h : Heap} : ∀ {v : Value} {d : D} (n : Nat), Rep ok h v d → D.data n d = true → ∃ as, Reads h v d.py as
  | _, _, _, .none, _ => ⟨_, Reads.none⟩
  | _, _, _, .bool b, _ => ⟨_, Reads.bool b⟩
  | _, _, _, .int i t, _ => ⟨_, Reads.int i t⟩
  | _, _, _, .str x t, _ => ⟨_, Reads.str x t⟩
  | _, _, n, .bytes _ _, hk => by cases n <;> simp [D.data] at hk
  | _, _, n, .raw _, hk => by cases n <;> simp [D.data] at hk
  | _, _, n, .slice _ _ _ _ _ _ _, hk => by cases n <;> simp [D.data] at hk
  | _, _, n, .rng _ _, hk => by cases n <;> simp [D.data] at hk
  | _, _, 0, .tuple _ _ _, hk => by simp [D.data] at hk
  | _, _, 0, .list _ _ _, hk => by simp [D.data] at hk
  | _, _, n + 1, .tuple _ l r, hk => by
    obtain ⟨as, q⟩ := repAll_reads n r (by simpa [D.data] using hk)
    obtain ⟨o, e, c, k, d⟩ := l
    rw [D.py]
    exact ⟨as, Reads.tuple e c d (by simpa using q)⟩
  | _, _, n + 1, .list _ l r, hk => by
    obtain ⟨as, q⟩ := repAll_reads n r (by simpa [D.data] using hk)
    obtain ⟨o, e, c, k, d⟩ := l
    rw [D.py]
    exact ⟨_, Reads.list e c d (by simpa using q)⟩
theorem repAll_reads {ok : Addr → Prop} {h : Heap} : ∀ {vs : List Value} {ds : List D} (n : Nat), RepAll ok h vs ds → D.datas n ds = true → ∃ as, ReadsAll h vs (D.pys ds) as
  | _, _, _, .nil, _ => ⟨_, ReadsAll.nil⟩
  | _, _, n, .cons a r, hk => by
    rw [D.datas, Bool.and_eq_true] at hk
    obtain ⟨as, q⟩ := rep_reads n a hk.1
    obtain ⟨bs, p⟩ := repAll_reads n r hk.2
    rw [D.pys]
    exact ⟨_, ReadsAll.cons q p⟩
end
mutual
theorem data_lay : ∀ (n : Nat) (d : D), D.data n d = true → d.py.canLay0 = true ∧ d.py.depth ≤ n
  | _, .none, _ => by simp [D.py, PyData.canLay0, PyData.depth]
  | _, .bool _, _ => by simp [D.py, PyData.canLay0, PyData.depth]
  | _, .int _, _ => by simp [D.py, PyData.canLay0, PyData.depth]
  | n, .str x, h => by
    have : PyData.strOk x = true := by cases n <;> simpa [D.data] using h
    simp [D.py, PyData.canLay0, PyData.depth, this]
  | n, .bytes _, h => by cases n <;> simp [D.data] at h
  | n, .raw _, h => by cases n <;> simp [D.data] at h
  | n, .slice _ _ _, h => by cases n <;> simp [D.data] at h
  | n, .rng _ _, h => by cases n <;> simp [D.data] at h
  | 0, .tuple _, h => by simp [D.data] at h
  | 0, .list _, h => by simp [D.data] at h
  | n + 1, .tuple ds, h => by
    have q := datas_lay n ds (by simpa [D.data] using h)
    simp only [D.py, PyData.canLay0, PyData.depth, q.1, true_and]
    have := q.2; omega
  | n + 1, .list ds, h => by
    have q := datas_lay n ds (by simpa [D.data] using h)
    simp only [D.py, PyData.canLay0, PyData.depth, q.1, true_and]
    have := q.2; omega
theorem datas_lay : ∀ (n : Nat) (ds : List D), D.datas n ds = true → PyData.canLayAll0 (D.pys ds) = true ∧ PyData.depthAll (D.pys ds) ≤ n
  | _, [], _ => by simp [D.pys, PyData.canLayAll0, PyData.depthAll]
  | n, d :: ds, h => by
    rw [D.datas, Bool.and_eq_true] at h
    have q := data_lay n d h.1
    have p := datas_lay n ds h.2
    simp only [D.pys, PyData.canLayAll0, PyData.depthAll, q.1, p.1, Bool.and_self, true_and]
    have := q.2; have := p.2; omega
end
/-- Python's == -/
def D.eqb (d e : D) : Bool := PyData.eqv d.py e.py
theorem str_beq (x y : Str) : (x == y) = decide (x = y) := rfl
theorem eqb_refl {d : D} {n : Nat} (h : d.data n = true) : d.eqb d = true := SeqAt.eqv_refl d.py (data_lay n d h).1
section
variable {G : Gr} {n : Nat} {env : Env} {σ : St}
theorem CmpD.eq {d e : D} {k : Nat} (hd : d.data k = true) (he : e.data k = true) (hk : k ≤ 400) : CmpD G n .Eq d e (d.eqb e) := fun ok A s E va vb r kb f ra rb => by
  obtain ⟨as, qa⟩ := rep_reads k ra hd
  obtain ⟨bs, qb⟩ := rep_reads k rb he
  have la := data_lay k d hd
  have lb := data_lay k e he
  exact SeqAt.compareEq_reads qa qb la.1 lb.1 (by have := r.units; have := la.2; have := lb.2; omega) ⟨.refl, rfl⟩
theorem CmpD.ne {d e : D} {k : Nat} (hd : d.data k = true) (he : e.data k = true) (hk : k ≤ 400) : CmpD G n .NotEq d e (!d.eqb e) := fun ok A s E va vb r kb f ra rb => by
  obtain ⟨as, qa⟩ := rep_reads k ra hd
  obtain ⟨bs, qb⟩ := rep_reads k rb he
  have la := data_lay k d hd
  have lb := data_lay k e he
  exact SeqAt.compareNe_reads qa qb la.1 lb.1 (by have := r.units; have := la.2; have := lb.2; omega) ⟨.refl, rfl⟩
def D.part : D → Option Int
  | .int i => some i
  | _ => Option.none
def D.isPart : D → Bool
  | .none | .int _ => true
  | _ => false
/-- the items that a slice takes -/
def pickD {α : Type} (ds : List α) (lo hi st : Option Int) : List α :=
  (sliceRange (sliceBounds lo hi st ds.length).1 (sliceBounds lo hi st ds.length).2.1 (sliceBounds lo hi st ds.length).2.2).filterMap (ds[·]?)
end
end Mine
end
section
open PySem PySem.W PyProof.Rows PySem.Calls
set_option maxRecDepth 100000
namespace Mine
section
variable {G : Gr} {n : Nat} {env : Env} {σ : St}
def sliceStr (x : Str) (lo hi st : Option Int) : Str := ⟨(pickD x.cps.toList lo hi st).toArray⟩
theorem pickD_length_le {α : Type} (ds : List α) (lo hi st : Option Int) : (pickD ds lo hi st).length ≤ ds.length := by
  unfold pickD
  refine Nat.le_trans (List.length_filterMap_le _ _) (sliceRange_length_le _ _ _ _ (fun hc => ?_) fun hc => ?_)
  · simp only [sliceBounds] at hc ⊢
    simp only [hc, if_true]
    constructor
    · cases lo with
      | none => simp
      | some i => dsimp only; omega
    · cases hi with
      | none => simp
      | some i => dsimp only; omega
  · simp only [sliceBounds] at hc ⊢
    simp only [hc, if_false]
    constructor
    · cases lo with
      | none => simp
      | some i => dsimp only; omega
    · cases hi with
      | none => simp
      | some i => dsimp only; omega
theorem filterMap_run {α : Type} (l : List α) (a k : Nat) : ((List.range k).map (a + ·)).filterMap (l[·]?) = (l.drop a).take k := by
  induction k with
  | zero => simp
  | succ k ih =>
    rw [List.range_succ, List.map_append, List.filterMap_append, ih, List.take_add_one]
    congr 1
    simp only [List.map_cons, List.map_nil, List.filterMap_cons, List.filterMap_nil, List.getElem?_drop]
    cases l[a + k]? <;> rfl
theorem pickD_plain {α : Type} (ds : List α) (lo hi : Option Int) :
    pickD ds lo hi none = (ds.drop (lo.elim 0 (clipAt ds.length))).take (hi.elim ds.length (clipAt ds.length) - lo.elim 0 (clipAt ds.length)) := by
  unfold pickD
  rw [sliceBounds_plain]
  simp only [sliceRange_one, filterMap_run]
theorem pickD_from {α : Type} (ds : List α) (a : Nat) : pickD ds (some (a : Int)) none none = ds.drop a := by
  rw [pickD_plain]
  simp only [Option.elim, clipAt_nat]
  rcases Nat.le_total a ds.length with h | h
  · rw [Nat.min_eq_left h, List.take_of_length_le (by simp)]
  · rw [Nat.min_eq_right h, List.drop_of_length_le (Nat.le_refl _), List.drop_of_length_le h]; simp
theorem pickD_upto {α : Type} (ds : List α) (b : Nat) : pickD ds none (some (b : Int)) none = ds.take b := by
  rw [pickD_plain]
  simp only [Option.elim, clipAt_nat, List.drop_zero, Nat.sub_zero]
  rcases Nat.le_total b ds.length with h | h
  · rw [Nat.min_eq_left h]
  · rw [Nat.min_eq_right h, List.take_of_length_le (Nat.le_refl _), List.take_of_length_le h]
theorem pickD_run {α : Type} (ds : List α) (a b : Nat) : pickD ds (some (a : Int)) (some (b : Int)) none = (ds.drop a).take (b - a) := by
  rw [pickD_plain]
  simp only [Option.elim, clipAt_nat]
  rcases Nat.le_total a ds.length with h | h
  · rw [Nat.min_eq_left h]
    rcases Nat.le_total b ds.length with h2 | h2
    · rw [Nat.min_eq_left h2]
    · rw [Nat.min_eq_right h2, List.take_of_length_le (by simp), List.take_of_length_le (by simp; omega)]
  · rw [Nat.min_eq_right h, List.drop_of_length_le (Nat.le_refl _), List.drop_of_length_le h]; simp
theorem lo_zero {hi lo n : Nat} (h : hi - lo = n) (hh : hi ≤ n) : lo = 0 ∨ n = 0 := by omega
theorem clip_le (n : Nat) (i : Int) : clipAt n i ≤ n := by have := clipAt_cast n i; omega
theorem IdxD.sliceS {x : Str} {l u st : D} (hl : l.isPart = true) (hu : u.isPart = true) (hs : st.isPart = true) (h0 : st.part ≠ some 0) (hz : x.length ≤ sizeLine) :
    IdxD G n (.str x) (.slice l u st) (.str (sliceStr x l.part u.part st.part)) := fun ok A s E vo vi r k f ro ri => by
  cases ri with
  | slice oi ei ci di r1 r2 r3 =>
    cases ro with
    | str _ t =>
      have conv : ∀ {v : Value} {d : D}, Rep ok s.heap v d → d.isPart = true → ∃ p : Option (Int × Tok), v = partValue p ∧ p.map (·.1) = d.part := fun {v d} r hp => by
        cases r <;> first | cases hp | skip
        · exact ⟨none, rfl, rfl⟩
        · exact ⟨some (_, _), rfl, rfl⟩
      obtain ⟨p1, e1, q1⟩ := conv r1 hl
      obtain ⟨p2, e2, q2⟩ := conv r2 hu
      obtain ⟨p3, e3, q3⟩ := conv r3 hs
      subst e1; subst e2; subst e3
      have h0' : ((p3.map (·.1)).getD 1 == 0) = false := by
        rw [q3]
        cases hp : st.part with
        | none => rfl
        | some c =>
          rw [hp] at h0
          exact beq_eq_false_iff_ne.mpr fun e => h0 (by rw [show c = 0 from e])
      refine wpAny_getItem_str_slice ⟨_, ei, ci, di⟩ h0' ?_
      have eidx : slicePicked x p1 p2 p3 = sliceRange (sliceBounds l.part u.part st.part x.cps.toList.length).1 (sliceBounds l.part u.part st.part x.cps.toList.length).2.1 (sliceBounds l.part u.part st.part x.cps.toList.length).2.2 := by
        unfold slicePicked
        rw [q1, q2, q3]
        rfl
      have epick : (slicePicked x p1 p2 p3).filterMap (x.cps[·]?) = pickD x.cps.toList l.part u.part st.part := by
        rw [eidx]; unfold pickD; simp
      have elen : ∀ i ∈ slicePicked x p1 p2 p3, i < x.length ∨ True := fun _ _ => .inr trivial
      unfold sliceMade
      split
      · rename_i hc
        -- the whole text: the slice is the text itself
        rw [Bool.and_eq_true] at hc
        have hstep : (p3.map (·.1)).getD 1 = 1 := by simpa using hc.1
        have hlen : (slicePicked x p1 p2 p3).length = x.length := by simpa using hc.2
        have hres : sliceStr x l.part u.part st.part = x := by
          unfold sliceStr
          have hb : sliceBounds l.part u.part st.part x.cps.toList.length = sliceBounds l.part u.part none x.cps.toList.length := by
            rw [q3] at hstep
            unfold sliceBounds
            rw [hstep]; rfl
          have hp : pickD x.cps.toList l.part u.part st.part = pickD x.cps.toList l.part u.part none := by unfold pickD; rw [hb]
          have hl2 : (sliceRange (sliceBounds l.part u.part none x.cps.toList.length).1 (sliceBounds l.part u.part none x.cps.toList.length).2.1 (sliceBounds l.part u.part none x.cps.toList.length).2.2).length = x.cps.toList.length := by
            rw [← hb, ← eidx, hlen]; simp [Str.length]
          rw [hp, pickD_plain]
          rw [sliceBounds_plain] at hl2
          simp only [sliceRange_one, List.length_map, List.length_range] at hl2
          have hhi : u.part.elim x.cps.toList.length (clipAt x.cps.toList.length) ≤ x.cps.toList.length := by
            cases u.part with
            | none => exact Nat.le_refl _
            | some i =>
              exact clip_le _ i
          have e1 := lo_zero hl2 hhi
          rcases e1 with e1 | e1
          · rw [e1, List.drop_zero, List.take_of_length_le (by omega)]
          · have e2 : x.cps.toList = [] := List.eq_nil_of_length_eq_zero e1
            obtain ⟨⟨lst⟩⟩ := x
            have e3 : lst = [] := by simpa using e2
            subst e3; simp
        rw [hres]
        exact ⟨.refl, .str _ _⟩
      · refine ⟨?_, .tok, ?_⟩
        · rw [epick]
          show (pickD x.cps.toList l.part u.part st.part).toArray.size ≤ sizeLine
          rw [List.size_toArray]
          exact Nat.le_trans (pickD_length_le _ _ _ _) (by simpa [Str.length] using hz)
        · rw [epick]; exact .str _ _
theorem repAll_strsFrom {ok : Addr → Prop} {h : Heap} : ∀ (l : List Str) (tk : Nat), RepAll ok h (strsFrom tk l) (l.map .str)
  | [], _ => .nil
  | x :: r, tk => .cons (.str x tk) (repAll_strsFrom r (tk + 1))
theorem CallD.split {x y : Str} {m : Int} (hy : (y.length == 0) = false) (h0 : 0 ≤ m) (h1 : m < 2 ^ 62) (hz : x.length + 2 ≤ sizeLine) :
    CallD G n (.builtin "str.split") [.str x, .str y, .int m] (.list ((Txt.splitMax x y m).map .str)) := fun ok A s E vs r k f rs => by
  cases rs with
  | cons a rs => cases rs with
    | cons b rs => cases rs with
      | cons c rs =>
        cases rs; cases a; cases b; cases c
        rename_i t u v
        have hk : (decide (m < -(2 ^ 63 : Int)) || decide (m ≥ 2 ^ 63)) = false := by
          rw [decide_eq_false (by omega), decide_eq_false (by omega)]; rfl
        have fin : ∀ (l : List Str) (ws : List Value) (tk : Nat), Txt.splitMax x y m = l → RepAll ok s.heap ws (l.map .str) → Stp G.base s { s with heap := s.heap.push { cls := .type "list", data := .seq ws.toArray }, toks := tk } ∧
            Rep ok (s.heap.push { cls := .type "list", data := .seq ws.toArray }) (.ref s.heap.objs.size) (.list ((Txt.splitMax x y m).map .str)) := fun l ws tk e rp => by
          have st : Stp G.base s { s with heap := s.heap.push { cls := .type "list", data := .seq ws.toArray }, toks := tk } := .push
          exact ⟨st, .list (f _ fresh_get) ⟨_, Heap.get?_push_size _ rfl, rfl, 0, rfl⟩ (by rw [e]; exact rp.stp st)⟩
        have hn : (Builtin.Str.partsBetween x (Builtin.Str.occurrences x y 0 x.length (limitOf x m)) y.length).length ≤ sizeLine := by
          have e1 := StrLaws.occ_length_le_len x y 0 x.length (limitOf x m)
          rw [length_partsBetween]; omega
        cases c1 : (decide (x.length < y.length) || decide (Builtin.Str.strKind x < Builtin.Str.strKind y))
        · cases hf : (Builtin.Str.occurrences x y 0 x.length (limitOf x m)).isEmpty
          · refine call_meets F.slot_str_split (typeIs_str _ _ _) F.entry_str_split (F.args_str_split_3 _ _ _) (meets_str_split_sep_max x y m t u v hk c1 hy hf (by omega) hn) ?_
            exact fin _ _ _ ((if_neg (ne_true_of_eq_false c1)).trans (if_neg (ne_true_of_eq_false hf))) (repAll_strsFrom _ _)
          · exact call_meets F.slot_str_split (typeIs_str _ _ _) F.entry_str_split (F.args_str_split_3 _ _ _) (meets_str_split_max_not_found x y m t u v hk c1 hy hf)
              (fin [x] [.str x t] s.toks ((if_neg (ne_true_of_eq_false c1)).trans (if_pos hf)) (.cons (.str x t) .nil))
        · exact call_meets F.slot_str_split (typeIs_str _ _ _) F.entry_str_split (F.args_str_split_3 _ _ _) (meets_str_split_max_cannot_occur x y m t u v hk c1)
            (fin [x] [.str x t] s.toks (if_pos c1) (.cons (.str x t) .nil))
theorem MethD.split {x : Str} : MethD G n (.str x) "split" (.builtin "str.split") := fun ok A s E v pl r k f rp => by
  cases rp; exact GM.split ⟨.refl, rfl⟩
theorem Tr.cmp2 {a b c : Expr} {op1 op2 : CmpOp} {p : Pos} {da db dc : D} {x y : Bool} (ha : EvB G n env σ a da) (hb : EvB G n env σ b db) (hc : EvB G n env σ c dc) (h1 : CmpD G n op1 da db x) (h2 : CmpD G n op2 db dc y)
    (hm : lastMarks [op1, op2] [b, c] = false := by with_unfolding_all rfl) : Tr G n env σ (.Compare a [op1, op2] [b, c] p) (x && y) := fun ok A s E r k i =>
  isTrue_chain (wpAny_mono (ha ok A s E r k i) (fun va s₁ p₁ => test_link (wpAny_mono (hb ok A s₁ E r (p₁.1.ext.base k) (i.ext p₁.1.ext)) (fun vb s₂ p₂ => by
    have st := p₁.1.trans p₂.1
    refine wpAny_mono (h1 _ A s₂ E va vb r (st.ext.base k) (i.ext st.ext).fresh (p₁.2.stp p₂.1) p₂.2) (fun vc s₃ p₃ => ?_) fun _ _ x => x
    obtain ⟨st3, rfl⟩ := p₃
    have st' := st.trans st3
    refine wpAny_truthy_bool ?_
    cases x with
    | false => exact ⟨st', rfl⟩
    | true =>
      refine test_last (wpAny_mono (hc ok A s₃ E r (st'.ext.base k) (i.ext st'.ext)) (fun vc s₄ p₄ => ?_) fun _ _ x => x)
      have st'' := st'.trans p₄.1
      refine wpAny_mono (h2 _ A s₄ E vb vc r (st''.ext.base k) (i.ext st''.ext).fresh ((p₂.2.stp st3).stp p₄.1) p₄.2) (fun vd s₅ p₅ => ?_) fun _ _ x => x
      obtain ⟨st5, rfl⟩ := p₅
      exact wpAny_truthy_bool ⟨st''.trans st5, rfl⟩) fun _ _ x => x)) fun _ _ x => x) hm
end
end Mine
end
section
open PySem PySem.W PyProof.Rows PySem.Calls
set_option maxRecDepth 100000
namespace Mine
section
variable {G : Gr} {n : Nat} {env : Env} {σ : St} {sc : Scope}
theorem closureFor_is (scope : Scope) (h : ∀ p ∈ scope.names, p.2 = .free → (env.cells.lookup p.1).isSome = true) :
    ∃ cl, closureFor scope env = pure cl ∧ (∀ y c, (y, c) ∈ cl → env.cells.lookup y = some c ∧ (y, NameKind.free) ∈ scope.names) ∧ (∀ p ∈ scope.names, p.2 = .free → cl.lookup p.1 = env.cells.lookup p.1) ∧ cl.map (·.1) = ((scope.names.filter (·.2 == .free)).map (·.1)).reverse := by
  have go : ∀ (f : Str × NameKind → List (Str × Addr) → Sem (ForInStep (List (Str × Addr)))) (hf : ∀ y k cs, f (y, k) cs = if k == NameKind.free then (do let a ← cellOf env y; pure (ForInStep.yield ((y, a) :: cs))) else pure (ForInStep.yield cs))
      (names : List (Str × NameKind)) (acc : List (Str × Addr)), (∀ p ∈ names, p.2 = .free → (env.cells.lookup p.1).isSome = true) → (∀ y c, (y, c) ∈ acc → env.cells.lookup y = some c) →
      ∃ cl, (forIn names acc f) = pure cl ∧
        (∀ y c, (y, c) ∈ cl → (y, c) ∈ acc ∨ (env.cells.lookup y = some c ∧ (y, NameKind.free) ∈ names)) ∧ (∀ q ∈ acc, q ∈ cl) ∧ (∀ p ∈ names, p.2 = .free → ∃ c, (p.1, c) ∈ cl) ∧ cl.map (·.1) = ((names.filter (·.2 == .free)).map (·.1)).reverse ++ acc.map (·.1) := by
    intro f hf names
    induction names with
    | nil => intro acc _ _; exact ⟨acc, by rw [List.forIn_nil], fun y c m => .inl m, fun _ q => q, (fun p hp => nomatch hp), by simp⟩
    | cons x r ih =>
      intro acc hn ha
      obtain ⟨y, k⟩ := x
      rw [List.forIn_cons, hf]
      by_cases hk : k = .free
      · subst hk
        obtain ⟨c, hc⟩ := Option.isSome_iff_exists.mp (hn (y, .free) (.head _) rfl)
        obtain ⟨cl, e, h1, h2, h3, h4⟩ := ih ((y, c) :: acc) (fun p hp => hn p (.tail _ hp)) (fun z d m => by
          rcases List.mem_cons.mp m with q | q
          · cases q; exact hc
          · exact ha z d q)
        refine ⟨cl, ?_, fun z d m => ?_, fun q hq => h2 q (.tail _ hq), fun p hp hfr => ?_, by rw [h4]; simp⟩
        · have : cellOf env y = pure c := by unfold cellOf; rw [hc]
          simp only [beq_self_eq_true, if_true, this, pure_bind]
          exact e
        · rcases h1 z d m with q | q
          · rcases List.mem_cons.mp q with q | q
            · cases q; exact .inr ⟨hc, .head _⟩
            · exact .inl q
          · exact .inr ⟨q.1, .tail _ q.2⟩
        · rcases List.mem_cons.mp hp with q | q
          · subst q; exact ⟨c, h2 _ (.head _)⟩
          · exact h3 p q hfr
      · obtain ⟨cl, e, h1, h2, h3, h4⟩ := ih acc (fun p hp => hn p (.tail _ hp)) ha
        have hb : (k == NameKind.free) = false := by simpa using hk
        refine ⟨cl, ?_, fun z d m => (h1 z d m).imp id fun q => ⟨q.1, .tail _ q.2⟩, h2, fun p hp hfr => ?_, by rw [h4]; simp [hk]⟩
        · simp only [hb, Bool.false_eq_true, if_false, pure_bind]
          exact e
        · rcases List.mem_cons.mp hp with q | q
          · subst q; exact absurd hfr hk
          · exact h3 p q hfr
  have key : ∃ cl, closureFor scope env = pure cl ∧ (∀ y c, (y, c) ∈ cl → (y, c) ∈ ([] : List (Str × Addr)) ∨ (env.cells.lookup y = some c ∧ (y, NameKind.free) ∈ scope.names)) ∧ (∀ p ∈ scope.names, p.2 = .free → ∃ c, (p.1, c) ∈ cl) ∧ cl.map (·.1) = ((scope.names.filter (·.2 == .free)).map (·.1)).reverse := by
    obtain ⟨cl, e, h1, _, h3, h4⟩ := go (fun x cs => match x with
      | (name, kind) => if kind == NameKind.free then (do let a ← cellOf env name; pure (ForInStep.yield ((name, a) :: cs))) else pure (ForInStep.yield cs)) (fun y k cs => rfl) scope.names [] h (fun y c m => nomatch m)
    have e0 : closureFor scope env = (forIn scope.names ([] : List (Str × Addr)) (fun x cs => match x with
      | (name, kind) => if kind == NameKind.free then (do let a ← cellOf env name; pure (ForInStep.yield ((name, a) :: cs))) else pure (ForInStep.yield cs)) >>= fun cs => pure cs) := rfl
    exact ⟨cl, by rw [e0, e]; rfl, h1, h3, by simpa using h4⟩
  obtain ⟨cl, e, h1, h3, h4⟩ := key
  have h1' : ∀ y c, (y, c) ∈ cl → env.cells.lookup y = some c ∧ (y, NameKind.free) ∈ scope.names := fun y c m => (h1 y c m).elim (fun q => nomatch q) id
  refine ⟨cl, e, h1', fun p hp hf => ?_, h4⟩
  · obtain ⟨c, hc⟩ := h3 p hp hf
    have e1 := (h1' _ _ hc).1
    rw [e1]
    -- the first entry under that name says the same
    have : ∀ l : List (Str × Addr), (∀ y c, (y, c) ∈ l → env.cells.lookup y = some c) → (p.1, c) ∈ l → l.lookup p.1 = some c := by
      intro l
      induction l with
      | nil => intro _ m; cases m
      | cons q r ih =>
        intro hl m
        obtain ⟨y, d⟩ := q
        rw [List.lookup_cons]
        cases e3 : p.1 == y with
        | true =>
          have := hl y d (.head _)
          rw [← beq_iff_eq.mp e3, e1] at this; exact this.symm
        | false =>
          rcases List.mem_cons.mp m with q | q
          · cases q; simp at e3
          · exact ih (fun y c m => hl y c (.tail _ m)) q
    exact this cl (fun y c m => (h1' y c m).1) hc
/-- what the frame of a comprehension knows of its names -/
structure CEnv (cenv : Env) (scope : Scope) : Prop where
  kind : ∀ x k, scope.names.lookup x = some k → k ≠ .free → cenv.kindOf x = some k
theorem CEnv.loc {cenv : Env} {scope : Scope} (C : CEnv cenv scope) {x : Str} (h : scope.names.lookup x = some .local) : cenv.kindOf x = some .local := C.kind x _ h (by decide)
theorem CEnv.glob {cenv : Env} {scope : Scope} (C : CEnv cenv scope) {x : Str} (h : scope.names.lookup x = some .globalImplicit) : cenv.kindOf x = some .globalImplicit := C.kind x _ h (by decide)
theorem lookup_relabel {env : Env} : ∀ {names : List (Str × NameKind)} {x : Str} {k : NameKind}, names.lookup x = some k →
    (names.map fun (n, k) => if (k == NameKind.free && env.scope.kind == .function && env.kindOf n == some .cell) then (n, NameKind.cell) else (n, k)).lookup x = some k ∨
    (k = .free ∧ (names.map fun (n, k) => if (k == NameKind.free && env.scope.kind == .function && env.kindOf n == some .cell) then (n, NameKind.cell) else (n, k)).lookup x = some .cell)
  | [], _, _, h => by simp at h
  | (n, k') :: r, x, k, h => by
    have ih := @lookup_relabel env r x k
    rw [List.map_cons]
    cases hx : x == n with
    | true =>
      rw [List.lookup_cons, hx] at h
      cases h
      by_cases hc : (k' == NameKind.free && env.scope.kind == .function && env.kindOf n == some .cell) = true
      · refine .inr ⟨by simp only [Bool.and_eq_true] at hc; exact beq_iff_eq.mp hc.1.1, ?_⟩
        dsimp only; rw [if_pos hc, List.lookup_cons, hx]
      · refine .inl ?_
        dsimp only; rw [if_neg hc, List.lookup_cons, hx]
    | false =>
      rw [List.lookup_cons, hx] at h
      dsimp only at ih ⊢
      by_cases hc : (k' == NameKind.free && env.scope.kind == .function && env.kindOf n == some .cell) = true
      · rw [if_pos hc, List.lookup_cons, hx]; exact ih h
      · rw [if_neg hc, List.lookup_cons, hx]; exact ih h
/-- a comprehension's target takes a value: its own names alone -/
def AssC (G : Gr) (n : Nat) (cenv : Env) (t : Expr) (d : D) (f : St → St) : Prop := ∀ σ ok A s E v, Room n A → G.base.StaysIn s.heap → Inv G.base ok cenv σ s.heap → owned σ = [] → Rep (okO ok σ) s.heap v d →
  wpAny G.M A (assign t cenv v) (fun _ s' => Inv G.base ok cenv (f σ) s'.heap ∧ Mv G.base (· = cenv.locals) s s' ∧ owned (f σ) = []) E s
theorem owned_setS_nil {x : Str} {d : D} (h : owned σ = []) : owned (setS x (.val d) σ) = [] := List.eq_nil_iff_forall_not_mem.mpr fun a m => by have := owned_setS_val m; rw [h] at this; cases this
theorem wpAny_storeL {M : Model} {A : Around} {E : Value → Shared → Prop} {s : Shared} {base : Heap} {x : Str} {v : Value} {Q : Unit → Shared → Prop} (F : Frame env s.heap) (hk : env.kindOf x = some .local)
    (h : ∀ s', Holds env s'.heap x v → (∀ y u, y ≠ x → Holds env s.heap y u → Holds env s'.heap y u) → Frame env s'.heap → Mv base (· = env.locals) s s' → Q () s') : wpAny M A (storeName env x v) Q E s := by
  obtain ⟨m, hn⟩ := F.ns
  refine wpAny_storeName_local hk hn (fun h' hn' hs' => ?_) (by rw [F.kind]; rfl)
  have hL : ∃ o, h'.get? env.locals = some o := let ⟨o, _, _, q, _⟩ := hn'; ⟨o, q⟩
  have keep : ∀ b, b ≠ env.locals → h'.get? b = s.heap.get? b := fun b hb => hs'.2 b hb
  refine h _ (.inl ⟨hk, _, hn', by simp⟩) (fun y u hy q => ?_) ⟨F.kind, ⟨_, hn'⟩, fun z c l => ?_, F.apart, F.away, F.glob, F.blt⟩ ⟨fun b o w e => ⟨o, (keep b w).trans e, rfl, rfl, fun _ => rfl⟩, fun b e => ?_, rfl, .refl⟩
  · rcases q with ⟨k, m', n', r⟩ | ⟨k, c, l, r⟩
    · refine .inl ⟨k, _, hn', ?_⟩
      have : m' y = m y := by
        obtain ⟨o, es, ep, q1, q2, _, q3⟩ := n'
        obtain ⟨o₂, es₂, ep₂, p1, p2, _, p3⟩ := hn
        rw [q1] at p1; cases p1; rw [q2] at p2; cases p2
        rw [← q3, ← p3]
      simp [hy, ← this, r]
    · exact .inr ⟨k, c, l, r.sameBut hs' (F.away y c l)⟩
  · obtain ⟨u, q⟩ := F.cells z c l
    exact ⟨u, q.sameBut hs' (F.away z c l)⟩
  · by_cases hb : b = env.locals
    · obtain ⟨o, q⟩ := hL
      have e' : h'.get? b = none := e
      rw [hb, q] at e'; cases e'
    · rw [← keep b hb]; exact e
theorem AssC.name {cenv : Env} {x : Str} {p : Pos} {d : D} (hk : cenv.kindOf x = some .local) : AssC G n cenv (.Name x p) d (setS x (.val d)) := fun σ ok A s E v r k i ho rp =>
  wpAny_assign_Name (wpAny_storeL (base := G.base) i.frame hk fun s' hv hot F m => ⟨i.set_val (m.weak fun _ w => .inl w) F hv hot rp, m, owned_setS_nil ho⟩)
def AssCL (G : Gr) (n : Nat) (cenv : Env) (ts : List Expr) (ds : List D) (f : St → St) : Prop := ∀ σ ok A s E vs, Room n A → G.base.StaysIn s.heap → Inv G.base ok cenv σ s.heap → owned σ = [] → RepAll (okO ok σ) s.heap vs ds →
  wpAny G.M A (assignInOrder ((assignEach ts cenv).map (·.2)) vs) (fun _ s' => Inv G.base ok cenv (f σ) s'.heap ∧ Mv G.base (· = cenv.locals) s s' ∧ owned (f σ) = []) E s
theorem AssCL.nil {cenv : Env} : AssCL G n cenv [] [] id := fun σ ok A s E vs r k i ho rs => by
  cases rs
  exact wpAny_pure ⟨i, Stp.refl.mv, ho⟩
theorem AssCL.cons {cenv : Env} {t : Expr} {ts : List Expr} {d : D} {ds : List D} {f g : St → St} (h : AssC G n cenv t d f) (hs : AssCL G n cenv ts ds g) (he : assignEach (t :: ts) cenv = (false, assign t cenv) :: assignEach ts cenv := by rfl) :
    AssCL G n cenv (t :: ts) (d :: ds) (fun σ => g (f σ)) := fun σ ok A s E vs r k i ho rs => by
  cases rs with
  | cons a rest =>
    rw [he]
    refine wpAny_bind (wpAny_holding (wpAny_mono (h σ ok A s E _ r k i ho a) (fun _ s₁ p₁ => ?_) fun _ _ x => x))
    have up : ∀ b, okO ok σ b → okO ok (f σ) b := fun b q => ⟨q.1, by rw [p₁.2.2]; simp⟩
    have rest' : RepAll (okO ok (f σ)) s₁.heap _ _ := rest.extBut p₁.2.1.ext (fun a q w z => node_not_frame i.frame w (.inl z)) fun b q _ => up b q
    refine wpAny_mono (hs (f σ) ok A s₁ E _ r (p₁.2.1.base k fun b w => i.off b (.inl (.inl w))) p₁.1 p₁.2.2 rest') (fun _ s₂ p₂ => ⟨p₂.1, p₁.2.1.trans p₂.2.1 fun b w => .inl w, p₂.2.2⟩) fun _ _ x => x
theorem AssC.tuple {cenv : Env} {ts : List Expr} {k : Nat} {p : Pos} {ds : List D} {f : St → St} (h : AssCL G n cenv ts ds f) (hn : ts.length = ds.length) (hstar : (assignEach ts cenv).findIdx? (·.1) = none := by rfl) : AssC G n cenv (.Tuple ts k p) (.tuple ds) f := fun σ ok A s E v r k i ho rp => by
  cases rp with
  | tuple o l rs =>
    refine assign_Tuple_tuple r.handled l (by rw [assignEach_length, hn, List.size_toArray, rs.length]) hstar fun h' he => ?_
    have st : Stp G.base s { s with heap := h' } := ⟨.of_stays fun b o e => he b o (Nat.ne_of_lt (Heap.lt_size e)) e, rfl, .refl⟩
    refine wpAny_mono (h σ ok A { s with heap := h' } E _ r (st.ext.base k) (i.ext st.ext) ho (rs.stp st)) (fun _ s₂ p₂ => ⟨p₂.1, (st.mv (W := (· = cenv.locals))).trans p₂.2.1 fun _ w => .inl w, p₂.2.2⟩) fun _ _ x => x
/-- the names that a comprehension takes over -/
def Cap (env : Env) (σ : St) (scope : Scope) : St → Prop
  | [] => True
  | (x, .val d) :: r => (σ.lookup x = some (.val d) ∧ scope.names.lookup x = some .free ∧ env.kindOf x = some .cell) ∧ Cap env σ scope r
  | (_, .own _ _) :: _ => False
theorem Cap.get {scope : Scope} {x : Str} {d : D} : ∀ {σc : St}, Cap env σ scope σc → σc.lookup x = some (.val d) → σ.lookup x = some (.val d) ∧ scope.names.lookup x = some .free ∧ env.kindOf x = some .cell
  | (y, .val e) :: r, h, l => by
    rw [List.lookup_cons] at l
    cases q : x == y with
    | true => rw [q] at l; cases l; rw [beq_iff_eq.mp q]; exact h.1
    | false => rw [q] at l; exact Cap.get h.2 l
theorem Cap.owned {scope : Scope} : ∀ {σc : St}, Cap env σ scope σc → Mine.owned σc = []
  | [], _ => rfl
  | (y, .val e) :: r, h => Cap.owned (σc := r) h.2
  | (y, .own _ _) :: r, h => h.elim
theorem Cap.noOwn {scope : Scope} {x : Str} {a : Addr} {es : List D} : ∀ {σc : St}, Cap env σ scope σc → σc.lookup x ≠ some (.own a es)
  | [], _ => nofun
  | (y, .val e) :: r, h => by
    rw [List.lookup_cons]
    cases x == y with
    | true => exact nofun
    | false => exact Cap.noOwn h.2
  | (y, .own _ _) :: r, h => h.elim
end
end Mine
end
section
open PySem PySem.W PyProof.Rows PySem.Calls
set_option maxRecDepth 100000
namespace Mine
section
variable {G : Gr} {n : Nat} {env : Env} {σ : St} {sc : Scope}
/-- objects change that the frame's state does not lean on -/
theorem Inv.mvW {base : Heap} {ok : Addr → Prop} {W : Addr → Prop} {s s' : Shared} (i : Inv base ok env σ s.heap) (m : Mv base W s s') (hf : ∀ a, W a → ¬ Wr env σ a) (hn : ∀ a, W a → okO ok σ a → ¬ IsNode s.heap a) : Inv base ok env σ s'.heap := by
  have nf : ∀ a, okO ok σ a → IsNode s.heap a → ¬ W a := fun a o q z => hn a z o q
  have hh : ∀ y v, Holds env s.heap y v → Holds env s'.heap y v := fun y v q => by
    rcases q with ⟨k, mm, hns, r⟩ | ⟨k, c, hc, r⟩
    · obtain ⟨o, es, ep, e, d, rr⟩ := hns
      obtain ⟨o', e', _, d', _⟩ := m.ext _ o (fun z => hf _ z (.inl (.inl rfl))) e
      exact .inl ⟨k, mm, ⟨o', es, ep, e', d'.trans d, rr⟩, r⟩
    · obtain ⟨o, e, d⟩ := r
      obtain ⟨o', e', _, d', _⟩ := m.ext _ o (fun z => hf _ z (.inl (.inr ⟨y, hc⟩))) e
      exact .inr ⟨k, c, hc, o', e', d'.trans d⟩
  refine ⟨⟨i.frame.kind, ?_, fun y c q => ?_, i.frame.apart, i.frame.away, i.frame.glob, i.frame.blt⟩, i.off, fun b e => i.fresh b (m.dom b e), fun y d q => ?_, fun y b es q => ?_, fun b w => ?_, i.once⟩
  · obtain ⟨mm, o, es, ep, e, d, rr⟩ := i.frame.ns
    obtain ⟨o', e', _, d', _⟩ := m.ext _ o (fun z => hf _ z (.inl (.inl rfl))) e
    exact ⟨mm, o', es, ep, e', d'.trans d, rr⟩
  · obtain ⟨v, o, e, d⟩ := i.frame.cells y c q
    obtain ⟨o', e', _, d', _⟩ := m.ext _ o (fun z => hf _ z (.inl (.inr ⟨y, q⟩))) e
    exact ⟨v, o', e', d'.trans d⟩
  · obtain ⟨u, p, r⟩ := i.vals y d q
    exact ⟨u, hh y u p, r.extBut m.ext nf fun _ w _ => w⟩
  · obtain ⟨p, o, vs, lv, rs⟩ := i.owns y b es q
    exact ⟨hh y _ p, o, vs, m.ext.own (fun z => hf b z (.inr (owned_of_lookup q))) lv, rs.extBut m.ext nf fun _ w _ => w⟩
  · obtain ⟨vs, lv⟩ := i.there b w
    exact ⟨vs, m.ext.own (fun z => hf b z (.inr w)) lv⟩
/-- the tests of a comprehension -/
def Tests (G : Gr) (n : Nat) (cenv : Env) (σ : St) (ifs : List Expr) (b : Bool) : Prop := ∀ ok A s E, Room n A → G.base.StaysIn s.heap → Inv G.base ok cenv σ s.heap →
  wpAny G.M A (forIn ifs true fun c r => if r = true then do let ok ← isTrue c cenv (eval c cenv); pure (ForInStep.yield ok) else pure (ForInStep.yield r)) (fun r s' => Stp G.base s s' ∧ r = b) E s
theorem Tests.nil {cenv : Env} : Tests G n cenv σ [] true := fun _ _ _ _ _ _ _ => wpAny_tests_nil ⟨.refl, rfl⟩
theorem Tests.one {cenv : Env} {c : Expr} {b : Bool} (h : Tr G n cenv σ c b) : Tests G n cenv σ [c] b := fun ok A s E r k i => wpAny_tests_one (h ok A s E r k i)
theorem compLoop_any {prog : Program} {w : World} {A : Around} {R : Result → Shared → Prop} {s : Shared} {elt target iter : Expr} {ifs : List Expr} {scope : Scope} {pos : Pos} {it acc : Value} {env : Env} (I : Nat → Shared → Prop)
    (turn : ∀ n s, I n s → ∀ E, (∀ e s', False → E e s') → wpAny (model prog w) A (pyNext it) (fun r s₁ => match r with
      | none => R (.ok .next) s₁
      | some v => wpAny (model prog w) A (letOwnedTupleGo target it v) (fun _ s₁' => wpAny (model prog w) A (assign target env v) (fun _ s₂ =>
          wpAny (model prog w) A (forIn ifs true fun c r => if r = true then do let ok ← isTrue c env (eval c env); pure (ForInStep.yield ok) else pure (ForInStep.yield r)) (fun ok s₃ =>
            if ok = true then wpAny (model prog w) A (eval elt env) (fun x s₄ =>
              wpAny (model prog w) A (call (.builtin "list.append") [acc, x]) (fun _ s₅ => ∃ m, m < n ∧ I m s₅) E s₄) E s₃
            else ∃ m, m < n ∧ I m s₃) E s₂) E s₁') E s₁) E s)
    (n : Nat) (h : I n s) : codeAny (model prog w) A (.compLoop (.ListComp elt [⟨target, iter, ifs, 0⟩] scope pos) 0 it acc env) R s := by
  refine codeAny_loop rfl I (fun n s hI => ?_) n h
  show wpAny _ A ((compTurn (.ListComp elt [⟨target, iter, ifs, 0⟩] scope pos) 0 it acc env).onRaise (fun x => do noteFrame x env; theTreesLotGoes x)) _ _ s
  refine wpAny_noted ?_
  rw [compTurn_list]
  refine wpAny_bind (wpAny_standAt (wpAny_bind (wpAny_mono (turn n s hI _ (fun _ _ f => f.elim)) (fun r s₁ h₁ => ?_) fun _ _ h' => h')))
  cases r with
  | none => exact wpAny_pure h₁
  | some v =>
    refine wpAny_bind (wpAny_mono h₁ (fun _ s₁' h₁' => ?_) fun _ _ h' => h')
    refine wpAny_bind (wpAny_mono h₁' (fun _ s₂ h₂ => wpAny_bind (wpAny_mono h₂ (fun ok s₃ h₃ => ?_) fun _ _ h' => h')) fun _ _ h' => h')
    cases ok with
    | false => exact wpAny_pure ⟨rfl, h₃⟩
    | true =>
      exact wpAny_bind (wpAny_bind (wpAny_mono h₃ (fun x s₄ h₄ => wpAny_bind (wpAny_mono h₄ (fun _ s₅ h₅ => wpAny_pure (wpAny_pure ⟨rfl, h₅⟩)) fun _ _ h' => h')) fun _ _ h' => h'))
inductive CpI (G : Gr) (ok : Addr → Prop) (cenv : Env) (σc : St) (Sx : Nat → Shared → Prop) (L : Addr) (ds : List D) (keep : D → Bool) (res : D → D) (s : Shared) (m : Nat) (s' : Shared) : Prop
  | mk (j : Nat) (ws : List Value) (hj : j ≤ ds.length) (hm : m = ds.length + 1 - j) (hSx : Sx j s') (hown : OwnL s'.heap L ws) (hrep : RepAll ok s'.heap ws (((ds.take j).filter keep).map res))
    (inv : Inv G.base ok cenv σc s'.heap) (st : Stp G.base s s') (hk : G.base.StaysIn s'.heap) : CpI G ok cenv σc Sx L ds keep res s m s'
theorem comp_core {elt target iter : Expr} {ifs : List Expr} {scope : Scope} {pos ipos : Pos} {ds : List D} {σc : St} {f : D → St → St} {keep : D → Bool} {res : D → D} {use : Option (Value → Sem Unit)} {Q : Value → Shared → Prop}
    (FE : FEnv env sc) (hfree : (scope.names.all fun p => p.2 != .free || sc.names.lookup p.1 == some .cell) = true) (hnd : (scope.names.map (·.1)).Nodup) (hcell : ∀ y ∈ scope.names, y.2 ≠ .cell) (hkind : scope.kind = .function)
    (hcap : Cap env σ scope σc) (hi : EvI G n env σ iter target ds) (hsub : ∀ d ∈ ds, Sub σc (f d σc))
    (hturn : ∀ cenv, CEnv cenv scope → ∀ d ∈ ds, AssC G n cenv target d (f d) ∧ Tests G n cenv (f d σc) ifs (keep d) ∧ (keep d = true → Ev G n cenv (f d σc) elt (res d)))
    (hz : ds.length < sizeLine) (hs : ∀ x, foldedSetIterable iter env x = pure x)
    {ok : Addr → Prop} {A : Around} {s : Shared} {E : Value → Shared → Prop} (r : Room n A) (k : G.base.StaysIn s.heap) (i : Inv G.base ok env σ s.heap)
    (K : ∀ L C ws s' m, Stp G.base s s' → s.heap.get? L = none → s.heap.get? C = none → L ≠ C → OwnL s'.heap L ws → RepAll (fun b => okO ok σ b ∧ b ≠ L) s'.heap ws ((ds.filter keep).map res) → s'.heap.Ns C m → compPost G.M A E use Q (.ref L) C (.ok .next) s') :
    wpAny G.M A (comprehension (.ListComp elt [⟨target, iter, ifs, 0⟩] scope pos) scope env ipos (newList []) false (eval iter env) use) Q E s := by
  have hcells : ∀ p ∈ scope.names, p.2 = .free → (env.cells.lookup p.1).isSome = true := fun p hp hf => by
    have := List.all_eq_true.mp hfree p hp
    rw [hf] at this
    exact FE.cells p.1 (by simpa using this)
  obtain ⟨cl, hclos, hcl1, hcl2, hcl3⟩ := closureFor_is (env := env) scope hcells
  have hnames : ∀ x ∈ scope.names, x.2 = .local → scope.names.lookup x.1 = some .local := fun x hx hl => by
    have : ∀ l : List (Str × NameKind), (l.map (·.1)).Nodup → x ∈ l → l.lookup x.1 = some x.2 := by
      intro l
      induction l with
      | nil => intro _ m; cases m
      | cons y t ih =>
        intro nd m
        obtain ⟨y, ky⟩ := y
        rw [List.map_cons, List.nodup_cons] at nd
        rw [List.lookup_cons]
        rcases List.mem_cons.mp m with q | q
        · subst q; simp
        · cases e : x.1 == y with
          | true => exact absurd (List.mem_map.mpr ⟨x, q, beq_iff_eq.mp e⟩) nd.1
          | false => exact ih nd.2 q
    rw [this scope.names hnd hx, hl]
  refine wpAny_comprehension_free (cl := cl) (e := .ListComp elt [⟨target, iter, ifs, 0⟩] scope pos) rfl hs hclos hkind hnames (wpAny_mono (hi ok A s E r k i) (fun x s₁ p₁ => wpAny_mono p₁ (fun it s₂ p₂ => ?_) fun _ _ x => x) fun _ _ x => x)
  obtain ⟨st, I, fp, wr, wg, Sx, rfl, W, hst, hfp, hwr, hwg⟩ := p₂
  have i₂ := i.ext st.ext
  have k₂ := st.ext.base k
  refine wpAny_newObj_type (wpAny_newFunctionEnv hcell (by intro y hy; simp at hy) (fun h₁ hns₁ hsb₁ => ?_) hkind)
  dsimp only at hns₁ hsb₁ ⊢
  -- the new list and the new namespace
  generalize hH : s₂.heap.push { cls := .type "list", dict := none, data := .seq ([] : List Value).toArray } = H at hns₁ hsb₁ ⊢
  generalize hL : s₂.heap.objs.size = L
  generalize hC : H.objs.size = C at hns₁ hsb₁
  have hCsz : C = L + 1 := by rw [← hC, ← hH, Heap.size_push, hL]
  have hLn : s₂.heap.get? L = none := by rw [← hL]; exact fresh_get
  have hCn : s₂.heap.get? C = none := by
    cases q : s₂.heap.get? C with
    | none => rfl
    | some o => have := Heap.lt_size q; rw [hL, hCsz] at this; exact absurd this (Nat.not_lt.mpr (Nat.le_succ L))
  have hLC : L ≠ C := by rw [hCsz]; exact Nat.ne_of_lt (Nat.lt_succ_self _)
  have old : ∀ b o, s₂.heap.get? b = some o → h₁.get? b = some o := fun b o e => hsb₁.extBut b o (fun q => by rw [q, hCn] at e; cases e) (Heap.get?_push_of_some _ (hH ▸ Heap.get?_push_of_some _ e))
  have hLo : OwnL h₁ L [] := ⟨0, hsb₁.extBut _ _ hLC (Heap.get?_push_of_some _ (hH ▸ hL ▸ Heap.get?_push_size _ rfl))⟩
  generalize hs3 : ({ s₂ with heap := h₁, toks := s₂.toks + ([] : List (Str × Value)).length } : Shared) = s₃
  have hs3' : s₃ = { s₂ with heap := h₁, toks := s₂.toks + ([] : List (Str × Value)).length } := hs3.symm
  have st₃ : Stp G.base s₂ s₃ := by rw [hs3']; exact .heap old
  have hh3 : s₃.heap = h₁ := by rw [hs3']
  show codeAny G.M A (.compStart (.ListComp elt [⟨target, iter, ifs, 0⟩] scope pos) 0 (.ref I) (.ref L) (compEnvC scope cl C env)) (compPost G.M A E use Q (.ref L) C) s₃
  generalize hce' : compEnvC scope cl C env = cenv
  replace hce' := hce'.symm
  have hcloc : cenv.locals = C := by rw [hce']; rfl
  have hccells : cenv.cells = cl := by rw [hce']; rfl
  have CE : CEnv cenv scope := ⟨fun x kd hx hne => by
    rw [hce']
    rcases lookup_relabel (env := env) hx with q | q
    · exact q
    · exact absurd q.1 hne⟩
  have hfrc : ∀ a, FrW cenv a → a = C ∨ FrW env a := fun a w => by
    rcases w with w | ⟨x, w⟩
    · exact .inl (w.trans hcloc)
    · rw [hccells] at w
      exact .inr (.inr ⟨x, (hcl1 _ _ (mem_of_lookup w)).1⟩)
  have hokin : FreshOk (fun b => okO ok σ b ∧ b ≠ L) s₃.heap := fun b e => ⟨(i₂.ext st₃.ext).freshO b e, fun q => by
    have := hLo.some; rw [← hh3, ← q, e] at this; cases this⟩
  have hbase : ∀ a, s₂.heap.get? a = none → G.base.get? a = none := fun a e => by
    cases q : G.base.get? a with
    | none => rfl
    | some o => rw [k₂ a o q] at e; cases e
  have oc := hcap.owned
  have hwrc : ∀ a, Wr cenv σc a → a = C ∨ FrW env a := fun a w => by
    rcases w with w | w
    · exact hfrc a w
    · rw [oc] at w; cases w
  have inv₃ : Inv G.base (fun b => okO ok σ b ∧ b ≠ L) cenv σc s₃.heap := by
    refine ⟨⟨by rw [hce']; exact hkind, ⟨_, by rw [hcloc, hh3]; exact hns₁⟩, fun x c l => ?_, ?_, fun x c l => ?_, by rw [hce']; exact i.frame.glob, by rw [hce']; exact i.frame.blt⟩, fun a w => ?_, hokin, fun x d l => ?_, fun x a es l => absurd l hcap.noOwn, fun a w => (by rw [oc] at w; cases w), (by rw [oc]; exact List.nodup_nil)⟩
    · rw [hccells] at l
      obtain ⟨v, q⟩ := i₂.frame.cells x c (hcl1 _ _ (mem_of_lookup l)).1
      exact ⟨v, st₃.ext.cell q⟩
    · rw [hccells]
      -- different names, different cells
      have : ∀ l : List (Str × Addr), (∀ y c, (y, c) ∈ l → env.cells.lookup y = some c) → (l.map (·.1)).Nodup → l.Pairwise fun x y => x.2 ≠ y.2 := by
        intro l
        induction l with
        | nil => intro _ _; exact List.Pairwise.nil
        | cons q t ih =>
          intro hl nd
          rw [List.map_cons, List.nodup_cons] at nd
          refine List.pairwise_cons.mpr ⟨fun p hp e => nd.1 (List.mem_map.mpr ⟨p, hp, ?_⟩), ih (fun y c m => hl y c (.tail _ m)) nd.2⟩
          exact (cells_inj i.frame.apart (hl q.1 q.2 (.head _)) (e ▸ hl p.1 p.2 (.tail _ hp))).symm
      refine this cl (fun y c m => (hcl1 y c m).1) ?_
      rw [hcl3]
      exact List.pairwise_reverse.mpr ((hnd.sublist (List.filter_sublist.map _)).imp fun q e => q e.symm)
    · rw [hccells] at l
      rw [hcloc]
      intro e
      obtain ⟨v, o, q, _⟩ := i₂.frame.cells x c (hcl1 _ _ (mem_of_lookup l)).1
      rw [e, hCn] at q; cases q
    · rcases hwrc a w with q | q
      · rw [q]; exact hbase C hCn
      · exact i.off a (.inl q)
    · obtain ⟨q1, q2, q3⟩ := hcap.get l
      obtain ⟨v, hv, rp⟩ := i₂.vals x d q1
      refine ⟨v, ?_, rp.ext st₃.ext fun b w z => ⟨⟨w, fun e => by rw [e, hLn] at z; cases z⟩, by rw [oc]; simp⟩⟩
      rcases hv with ⟨kd, _⟩ | ⟨_, c, hc, hv⟩
      · rw [q3] at kd; cases kd
      · refine .inr ⟨?_, c, ?_, st₃.ext.cell hv⟩
        · rw [hce']
          rcases lookup_relabel (env := env) q2 with q | q
          · exact .inr q
          · exact .inl q.2
        · rw [hccells, hcl2 _ (mem_of_lookup q2) rfl]; exact hc
  have loop : codeAny G.M A (.compLoop (.ListComp elt [⟨target, iter, ifs, 0⟩] scope pos) 0 (.ref I) (.ref L) cenv) (compPost G.M A E use Q (.ref L) C) s₃ := by
    have hfpL : ∀ a, fp a → a ≠ L := fun a q e => by have := (hfp a q).1; rw [e, hLn] at this; cases this
    have hfpC : ∀ a, fp a → a ≠ C := fun a q e => by have := (hfp a q).1; rw [e, hCn] at this; cases this
    have hok0 : ∀ a, (okO ok σ a ∧ (s₂.heap.get? a).isSome = true) → okO ok σ a ∧ a ≠ L := fun a q => ⟨q.1, fun e => by have := q.2; rw [e, hLn] at this; cases this⟩
    have hok0C : ∀ a, (okO ok σ a ∧ (s₂.heap.get? a).isSome = true) → a ≠ C := fun a q e => by have := q.2; rw [e, hCn] at this; cases this
    have hwrw : ∀ a, wr a → ¬ Wr cenv σc a := fun a q w => by
      rcases hwrc a w with z | z
      · exact hfpC a (hwr a q).2 z
      · exact (hfp a (hwr a q).2).2 (.inl z)
    have hLw : ¬ Wr cenv σc L := fun w => by
      rcases hwrc L w with z | z
      · exact hLC z
      · rcases z with z | ⟨x, z⟩
        · obtain ⟨m, o, _, _, q, _⟩ := i₂.frame.ns; rw [← z, hLn] at q; cases q
        · obtain ⟨v, o, q, _⟩ := i₂.frame.cells x L z; rw [hLn] at q; cases q
    have hsL : s.heap.get? L = none := st.ext.none hLn
    have hsC : s.heap.get? C = none := st.ext.none hCn
    refine compLoop_any (CpI G (fun b => okO ok σ b ∧ b ≠ L) cenv σc Sx L ds keep res s) ?_ (ds.length + 1)
      ⟨0, [], Nat.zero_le _, rfl, W.frame 0 s₂ s₃ (fun _ => False) hst st₃.mv (fun _ _ z => z) (fun _ _ _ z => z), by rw [hh3]; exact hLo, .nil, inv₃, st.trans st₃, st₃.ext.base k₂⟩
    rintro m s' ⟨j, ws, hj, rfl, hSx, hown, hrep, hinv, hstp, hk⟩ E' _
    have hnode : ∀ {P : Addr → Prop} a, P a → IsNode s'.heap a → ¬ wr a := fun a _ nd z => (W.node j s' a hSx z).1 nd
    by_cases hlt : j < ds.length
    · have hd : ds[j]? = some ds[j] := List.getElem?_eq_getElem hlt
      have hdm : ds[j] ∈ ds := List.getElem_mem hlt
      obtain ⟨hass, htest, helt⟩ := hturn cenv CE ds[j] hdm
      refine wpAny_mono (W.item j ds[j] s' E' (fun b => okO ok σ b ∧ b ≠ L) hd hSx hk hok0 hinv.fresh) (fun r' s₄ q => ?_) fun _ _ x => x
      obtain ⟨v, rfl, q⟩ := q
      refine wpAny_mono q (fun _ s₅ q => ?_) fun _ _ x => x
      obtain ⟨rp, hSx₅, mi⟩ := q
      have inv₅ := hinv.mvI mi hwrw (fun a w => (W.node j s' a hSx w).1) fun b w => ⟨i.freshO b (hwr b w).1, hfpL b (hwr b w).2⟩
      have st₅ : Stp G.base s s₅ := (MvI.after (hstp.mv (W := fun _ => False)) mi (fun a w => (hwr a w).1) hwg).stp fun _ z => z.elim
      have own₅ : OwnL s₅.heap L ws := mi.ext.own (fun z => hfpL L (hwr L z).2 rfl) hown
      have rep₅ : RepAll (fun b => okO ok σ b ∧ b ≠ L) s₅.heap ws _ := hrep.extBut mi.ext hnode fun _ q _ => q
      refine wpAny_mono (hass σc _ A s₅ E' v r (st₅.ext.base k) inv₅ oc (rp.weak fun b q => ⟨q, by rw [oc]; simp⟩)) (fun _ s₆ q => ?_) fun _ _ x => x
      obtain ⟨inv₆, mv₆, ow₆⟩ := q
      rw [hcloc] at mv₆
      have st₆ : Stp G.base s s₆ := ((st₅.mv (W := fun _ => False)).trans (mv₆) fun p w => .inr (w ▸ hsC)).stp fun _ z => z.elim
      have own₆ : OwnL s₆.heap L ws := mv₆.ext.own hLC own₅
      have rep₆ : RepAll (fun b => okO ok σ b ∧ b ≠ L) s₆.heap ws _ := rep₅.extBut mv₆.ext (fun a _ nd z => node_not_frame inv₅.frame nd (.inl (z.trans hcloc.symm))) fun _ q _ => q
      have hSx₆ : Sx (j + 1) s₆ := W.frame (j + 1) s₅ s₆ _ hSx₅ mv₆ (fun a q z => hfpC a q z) (fun a q _ z => hok0C a q z)
      refine wpAny_mono (htest _ A s₆ E' r (st₆.ext.base k) inv₆) (fun ok' s₇ q => ?_) fun _ _ x => x
      obtain ⟨st₇, rfl⟩ := q
      have inv₇ := inv₆.ext st₇.ext
      have own₇ := st₇.ext.own own₆
      have rep₇ := rep₆.stp st₇
      have hSx₇ : Sx (j + 1) s₇ := W.frame (j + 1) s₆ s₇ (fun _ => False) hSx₆ st₇.mv (fun _ _ z => z) (fun _ _ _ z => z)
      have st₇' := st₆.trans st₇
      have hns : (owned σc).Nodup := by rw [oc]; exact List.nodup_nil
      have htake : ds.take (j + 1) = ds.take j ++ [ds[j]] := by rw [List.take_add_one, hd]; rfl
      split
      · rename_i hkp
        refine wpAny_mono (helt hkp _ A s₇ E' r (st₇'.ext.base k) inv₇) (fun v' s₈ q => ?_) fun _ _ x => x
        obtain ⟨st₈, rp₈⟩ := q
        have st₈' := st₇'.trans st₈
        obtain ⟨nn, hLe⟩ := st₈.ext.own own₇
        have rep₈ := rep₇.stp st₈
        have hsz : ws.length ≤ ds.length := by
          rw [rep₈.length, List.length_map]
          exact Nat.le_trans (List.length_filter_le _ _) (by rw [List.length_take]; exact Nat.min_le_right _ _)
        refine append_at (hsz := by rw [List.size_toArray]; exact Nat.le_of_lt (Nat.lt_of_le_of_lt hsz hz)) hLe fun h' hs' hl' => ?_
        have mv₉ : Mv G.base (· = L) s₈ { s₈ with heap := h' } := ⟨fun b o w e => ⟨o, (hs'.2 b w).trans e, rfl, rfl, fun _ => rfl⟩, fun b e => (by
          by_cases hb : b = L
          · have e' : h'.get? b = none := e
            rw [hb, hl'] at e'; cases e'
          · rw [← hs'.2 b hb]; exact e), rfl, .refl⟩
        have st₉ : Stp G.base s { s₈ with heap := h' } := ((st₈'.mv (W := fun _ => False)).trans mv₉ fun p w => .inr (w ▸ hsL)).stp fun _ z => z.elim
        have hSx₈ : Sx (j + 1) s₈ := W.frame (j + 1) s₇ s₈ (fun _ => False) hSx₇ st₈.mv (fun _ _ z => z) (fun _ _ _ z => z)
        refine ⟨ds.length + 1 - (j + 1), turn_lt hlt, j + 1, ws ++ [v'], hlt, rfl, W.frame (j + 1) s₈ _ _ hSx₈ mv₉ (fun a q z => hfpL a q z) (fun a q _ z => (hok0 a q).2 z), ⟨nn + 1, by rw [hl']; simp⟩, ?_, ?_, st₉, st₉.ext.base k⟩
        · rw [htake, List.filter_append, List.map_append]
          have e1 : [ds[j]].filter keep = [ds[j]] := by simp [hkp]
          rw [e1]
          exact (rep₈.extBut mv₉.ext (fun a q _ z => q.2 z) fun _ q _ => q).append (.cons ((rp₈.weak fun b q => q.1).extBut mv₉.ext (fun a q _ z => q.2 z) fun _ q _ => q) .nil)
        · have inv₈ := (inv₇.ext st₈.ext).sub (hsub _ hdm) hns
          exact inv₈.mvW mv₉ (fun a z w => hLw (z ▸ w)) (fun a z o _ => o.1.2 z)
      · rename_i hkp
        refine ⟨ds.length + 1 - (j + 1), turn_lt hlt, j + 1, ws, hlt, rfl, hSx₇, own₇, ?_, inv₇.sub (hsub _ hdm) hns, st₇', st₇'.ext.base k⟩
        rw [htake, List.filter_append, List.map_append]
        have e1 : [ds[j]].filter keep = [] := by simp [hkp]
        rw [e1]; simpa using rep₇
    · have hjl : j = ds.length := Nat.le_antisymm hj (Nat.not_lt.mp hlt)
      subst hjl
      refine wpAny_mono (W.done s' _ hSx hk) (fun r' s₄ q => ?_) fun _ _ x => x
      obtain ⟨rfl, mi⟩ := q
      have inv₄ := hinv.mvI mi hwrw (fun a w => (W.node _ s' a hSx w).1) fun b w => ⟨i.freshO b (hwr b w).1, hfpL b (hwr b w).2⟩
      have st₄ : Stp G.base s s₄ := (MvI.after (hstp.mv (W := fun _ => False)) mi (fun a w => (hwr a w).1) hwg).stp fun _ z => z.elim
      obtain ⟨mm, hmm⟩ := inv₄.frame.ns
      rw [hcloc] at hmm
      rw [List.take_length] at hrep
      exact K L C ws s₄ mm st₄ hsL hsC hLC (mi.ext.own (fun z => hfpL L (hwr L z).2 rfl) hown) (hrep.extBut mi.ext hnode fun _ q _ => q) hmm
  refine codeAny_compStart_list loop (W.self 0 s₃ _ _ (W.frame 0 s₂ s₃ (fun _ => False) hst st₃.mv (fun _ _ z => z) (fun _ _ _ z => z)) loop)
end
end Mine
end
section
open PySem PySem.W PyProof.Rows PySem.Calls
set_option maxRecDepth 100000
namespace Mine
section
variable {G : Gr} {n : Nat} {env : Env} {σ : St} {sc : Scope}
theorem ns_not_node {h : Heap} {a : Addr} {m : Str → Option Value} (n : h.Ns a m) : ¬ IsNode h a := fun q => by
  obtain ⟨o, es, ep, q1, d, _⟩ := n
  cases q with
  | list l => obtain ⟨o', q', _, k, d'⟩ := l; rw [q1] at q'; cases q'; rw [d] at d'; cases d'
  | tup l => obtain ⟨o', q', _, k, d'⟩ := l; rw [q1] at q'; cases q'; rw [d] at d'; cases d'
  | slice q' _ d' => rw [q1] at q'; cases q'; rw [d] at d'; cases d'
  | rng q' => unfold IsRange at q'; rw [q1] at q'; cases q'; cases d
theorem sameBut_ext {base : Heap} {C : Addr} {h h' : Heap} (hs : Heap.SameBut C h h') : ExtBut base (· = C) h h' := fun b o w e => ⟨o, (hs.2 b w).trans e, rfl, rfl, fun _ => rfl⟩
theorem Stp.forget {base : Heap} {C : Addr} {s s₁ : Shared} {h' : Heap} (st : Stp base s s₁) (hC : s.heap.get? C = none) (hs : Heap.SameBut C s₁.heap h') : Stp base s { s₁ with heap := h' } := by
  refine ⟨fun b o e => ?_, st.os, st.gens⟩
  obtain ⟨o', e', c', d', k'⟩ := st.ext b o e
  have hb : b ≠ C := fun q => by rw [q, hC] at e; cases e
  exact ⟨o', (hs.2 b hb).trans e', c', d', k'⟩
theorem Inv.butW {base : Heap} {ok : Addr → Prop} {W : Addr → Prop} {h h' : Heap} (i : Inv base ok env σ h) (m : ExtBut base W h h') (fr : FreshOk ok h') (hf : ∀ a, W a → ¬ Wr env σ a) (hn : ∀ a, W a → okO ok σ a → ¬ IsNode h a) : Inv base ok env σ h' := by
  have nf : ∀ a, okO ok σ a → IsNode h a → ¬ W a := fun a o q z => hn a z o q
  have hh : ∀ y v, Holds env h y v → Holds env h' y v := fun y v q => by
    rcases q with ⟨k, mm, hns, r⟩ | ⟨k, c, hc, r⟩
    · obtain ⟨o, es, ep, e, d, rr⟩ := hns
      obtain ⟨o', e', _, d', _⟩ := m _ o (fun z => hf _ z (.inl (.inl rfl))) e
      exact .inl ⟨k, mm, ⟨o', es, ep, e', d'.trans d, rr⟩, r⟩
    · obtain ⟨o, e, d⟩ := r
      obtain ⟨o', e', _, d', _⟩ := m _ o (fun z => hf _ z (.inl (.inr ⟨y, hc⟩))) e
      exact .inr ⟨k, c, hc, o', e', d'.trans d⟩
  refine ⟨⟨i.frame.kind, ?_, fun y c q => ?_, i.frame.apart, i.frame.away, i.frame.glob, i.frame.blt⟩, i.off, fr, fun y d q => ?_, fun y b es q => ?_, fun b w => ?_, i.once⟩
  · obtain ⟨mm, o, es, ep, e, d, rr⟩ := i.frame.ns
    obtain ⟨o', e', _, d', _⟩ := m _ o (fun z => hf _ z (.inl (.inl rfl))) e
    exact ⟨mm, o', es, ep, e', d'.trans d, rr⟩
  · obtain ⟨v, o, e, d⟩ := i.frame.cells y c q
    obtain ⟨o', e', _, d', _⟩ := m _ o (fun z => hf _ z (.inl (.inr ⟨y, q⟩))) e
    exact ⟨v, o', e', d'.trans d⟩
  · obtain ⟨u, p, r⟩ := i.vals y d q
    exact ⟨u, hh y u p, r.extBut m nf fun _ w _ => w⟩
  · obtain ⟨p, o, vs, lv, rs⟩ := i.owns y b es q
    exact ⟨hh y _ p, o, vs, m.own (fun z => hf b z (.inr (owned_of_lookup q))) lv, rs.extBut m nf fun _ w _ => w⟩
  · obtain ⟨vs, lv⟩ := i.there b w
    exact ⟨vs, m.own (fun z => hf b z (.inr w)) lv⟩
/-- what a comprehension gives -/
structure CompOk (G : Gr) (n : Nat) (env : Env) (σ : St) (sc : Scope) (elt target iter : Expr) (ifs : List Expr) (scope : Scope) (out : List D) : Prop where
  go : ∀ {pos ipos : Pos} {use : Option (Value → Sem Unit)} {Q : Value → Shared → Prop} {ok : Addr → Prop} {A : Around} {s : Shared} {E : Value → Shared → Prop}, Room n A → G.base.StaysIn s.heap → Inv G.base ok env σ s.heap →
    (∀ L C ws s' m, Stp G.base s s' → s.heap.get? L = none → s.heap.get? C = none → L ≠ C → OwnL s'.heap L ws → RepAll (fun b => okO ok σ b ∧ b ≠ L) s'.heap ws out → s'.heap.Ns C m → compPost G.M A E use Q (.ref L) C (.ok .next) s') →
    wpAny G.M A (comprehension (.ListComp elt [⟨target, iter, ifs, 0⟩] scope pos) scope env ipos (newList []) false (eval iter env) use) Q E s
theorem CompOk.mk' {elt target iter : Expr} {ifs : List Expr} {scope : Scope} {ds : List D} {σc : St} {f : D → St → St} {keep : D → Bool} {res : D → D} {out : List D}
    (FE : FEnv env sc) (hcap : Cap env σ scope σc) (hi : EvI G n env σ iter target ds) (hsub : ∀ d ∈ ds, Sub σc (f d σc))
    (hturn : ∀ cenv, CEnv cenv scope → ∀ d ∈ ds, AssC G n cenv target d (f d) ∧ Tests G n cenv (f d σc) ifs (keep d) ∧ (keep d = true → Ev G n cenv (f d σc) elt (res d)))
    (hz : ds.length < sizeLine) (ho : (ds.filter keep).map res = out)
    (hfree : (scope.names.all fun p => p.2 != .free || sc.names.lookup p.1 == some .cell) = true := by decide) (hnd : (scope.names.map (·.1)).Nodup := by decide) (hcell : ∀ y ∈ scope.names, y.2 ≠ .cell := by decide) (hkind : scope.kind = .function := by rfl)
    (hs : ∀ x, foldedSetIterable iter env x = pure x := by intro _; rfl) : CompOk G n env σ sc elt target iter ifs scope out :=
  ⟨fun r k i K => comp_core FE hfree hnd hcell hkind hcap hi hsub hturn hz hs r k i (by rw [ho]; exact K)⟩
theorem EvF.comp {elt target iter : Expr} {ifs : List Expr} {scope : Scope} {pos : Pos} {out : List D} (h : CompOk G n env σ sc elt target iter ifs scope out) :
    EvF G n env σ (.ListComp elt [⟨target, iter, ifs, 0⟩] scope pos) out := fun ok A s E r k i => by
  rw [eval_ListComp]
  refine h.go (use := none) r k i fun L C ws s' m st hL hC hLC l rs hn => ⟨m, hn, fun h' hs => ⟨st.forget hC hs, L, ws, rfl, hL, ?_, ?_⟩⟩
  · exact (sameBut_ext (base := G.base) hs).own hLC l
  · exact rs.extBut (sameBut_ext (base := G.base) hs) (fun a _ nd e => ns_not_node hn (e ▸ nd)) fun _ q _ => q
/-- x = [.. for ..], the store under way while the loop's frame goes -/
theorem Ex1.assignComp {x : Str} {elt target iter : Expr} {ifs : List Expr} {scope : Scope} {p pos spos : Pos} {out : List D} (h : CompOk G n env σ sc elt target iter ifs scope out) (hx : Storable env x)
    (hs : swapsWith (.ListComp elt [⟨target, iter, ifs, 0⟩] scope pos) (some (.Name x p)) spos.line env = pure true) :
    Ex1 G n env σ (.Assign [.Name x p] (.ListComp elt [⟨target, iter, ifs, 0⟩] scope pos) spos) fun fl σ' => fl = .next ∧ ∃ a, σ' = setS x (.own a out) σ := fun ok A s E r k i => by
  rw [exec_Assign_Name_used _ _ _ _ hs]
  refine wpAny_bind (wpAny_standAt (wpAny_bind ?_))
  show wpAny _ A (do let _ ← comprehension (.ListComp elt [⟨target, iter, ifs, 0⟩] scope pos) scope env _ (newList []) false (eval iter env) (some (PySem.assign (.Name x p) env))) _ _ s
  refine wpAny_bind (wpAny_mono (h.go (use := some (PySem.assign (.Name x p) env)) (Q := fun _ s' => After G env σ ok s (fun fl σ' => fl = .next ∧ ∃ a, σ' = setS x (.own a out) σ) .next s') r k i fun L C ws s' m st hL hC hLC l rs hn => ?_)
    (fun _ s' hq => wpAny_pure (wpAny_pure hq)) fun _ _ e => e)
  show wpAny _ A (PySem.assign (.Name x p) env (.ref L)) _ _ _
  refine wpAny_assign_Name ?_
  have i₁ := i.ext st.ext
  have hCF : ¬ FrW env C := fun w => by
    rcases w with z | ⟨x, z⟩
    · obtain ⟨m, o, _, _, q, _⟩ := i.frame.ns; rw [← z, hC] at q; cases q
    · obtain ⟨v, o, q, _⟩ := i.frame.cells x C z; rw [hC] at q; cases q
  refine wpAny_store (base := G.base) i₁.frame hx fun s₂ hv ho F mv => ?_
  have hn₂ : s₂.heap.Ns C m := by
    obtain ⟨o, es, ep, e, d, rr⟩ := hn
    obtain ⟨o', e', _, d', _⟩ := mv.ext _ o hCF e
    exact ⟨o', es, ep, e', d'.trans d, rr⟩
  refine ⟨m, hn₂, fun h' hs' => ?_⟩
  obtain ⟨i', m', k', o'⟩ := After.own k i st hL l rs hv ho F mv
  have fr : FreshOk ok h' := fun b e => by
    by_cases hb : b = C
    · rw [hb]; exact i.fresh C hC
    · exact i'.fresh b ((hs'.2 b hb).symm.trans e)
  have hCo : ¬ Wr env (setS x (.own L out) σ) C := fun w => by
    rcases w with w | w
    · exact hCF w
    · rcases o' C w with w | w
      · obtain ⟨vs, q⟩ := i.there C w; have := q.some; rw [hC] at this; cases this
      · exact hLC w.symm
  have mm : Mv G.base (Wr env σ) s { s₂ with heap := h' } := ⟨fun b o w e => by
      obtain ⟨o', e', c', d', k'⟩ := m'.ext b o w e
      have hb : b ≠ C := fun q => by rw [q, hC] at e; cases e
      exact ⟨o', (hs'.2 b hb).trans e', c', d', k'⟩, fun b e => (by
      by_cases hb : b = C
      · rw [hb]; exact hC
      · exact m'.dom b ((hs'.2 b hb).symm.trans e)), m'.os, m'.gens⟩
  exact ⟨.next, _, ⟨rfl, L, rfl⟩, trivial, i'.butW (sameBut_ext hs') fr (fun a e => e ▸ hCo) (fun a e _ => e ▸ ns_not_node hn₂), mm, mm.base k i.off, fun b w => (o' b w).imp id fun w => by rw [w]; exact hL⟩
/-- an item of a list of the frame's own -/
theorem Ev.itemOwn {x : Str} {p q : Pos} {ie : Expr} {a : Addr} {ds : List D} {j : Int} {d : D} (l : σ.lookup x = some (.own a ds)) (hi : Ev G n env σ ie (.int j))
    (hj : (0 ≤ j ∧ ds[j.toNat]? = some d ∧ ds.length < 2 ^ 62) ∨ (j < 0 ∧ -(ds.length : Int) ≤ j ∧ -(2 ^ 62) ≤ j ∧ ds[(j + ds.length).toNat]? = some d))
    (hs : ∀ a b, ∃ ops, subscripted ie false a b = operate ops (getItem a b) := by intro a b; first | exact ⟨[a, b], rfl⟩ | exact ⟨[b, a], rfl⟩)
    (hd : (x == ("__debug__" : Str)) = false := by decide) (hc : (x == ("__classdict__" : Str)) = false := by decide) : Ev G n env σ (.Subscript (.Name x p) ie q) d := fun ok A s E r k i => by
  obtain ⟨hv, o, vs, lv, rs⟩ := i.owns x a ds l
  refine Subscript_ (wpAny_holds i.frame.kind hv ?_ hd hc)
  refine wpAny_mono (hi ok A s E r k i) (fun vi s₁ p₁ => ?_) fun _ _ x => x
  obtain ⟨st, rp⟩ := p₁
  cases rp
  obtain ⟨ops, hs⟩ := hs (.ref a) (.int j _)
  have lv₁ := st.ext.own lv
  have rs₁ := rs.stp st
  refine tail_any lv₁.list.typeIs slot_list_getitem.lookup ?_ hs
  rcases hj with ⟨h0, h1, h2⟩ | ⟨h0, h1, h2, h3⟩
  · obtain ⟨v, hv, rv⟩ := rs₁.get h1
    have : j.toNat < ds.length := by
      obtain ⟨w, _⟩ := List.getElem?_eq_some_iff.mp h1; exact w
    exact wpAny_getItem_list lv₁.list h0 (by omega) (by simpa using hv) ⟨st, rv⟩
  · obtain ⟨v, hv, rv⟩ := rs₁.get h3
    exact wpAny_getItem_list_neg lv₁.list h0 (by rw [List.size_toArray, rs₁.length]; exact h1) (by omega) (by rw [List.size_toArray, rs₁.length]; simpa using hv) ⟨st, rv⟩
theorem RepAll.set {ok : Addr → Prop} {h : Heap} : ∀ {vs : List Value} {ds : List D} {j : Nat} {v : Value} {d : D}, RepAll ok h vs ds → Rep ok h v d → RepAll ok h (vs.set j v) (ds.set j d)
  | _, _, _, _, _, .nil, _ => .nil
  | _, _, 0, _, _, .cons _ t, r => .cons r t
  | _, _, j + 1, _, _, .cons a t, r => .cons a (t.set r)
/-- x[i] = e on a list of the frame's own -/
theorem Ex1.setItem {x : Str} {p q pos : Pos} {ie e : Expr} {a : Addr} {ds : List D} {j : Int} {d : D} (l : σ.lookup x = some (.own a ds)) (h : Ev G n env σ e d) (hi : Ev G n env σ ie (.int j)) (k' : Nat)
    (hj : (0 ≤ j ∧ j.toNat = k' ∧ k' < ds.length ∧ ds.length < 2 ^ 62) ∨ (j < 0 ∧ -(ds.length : Int) ≤ j ∧ -(2 ^ 62) ≤ j ∧ (j + ds.length).toNat = k'))
    (hd : (x == ("__debug__" : Str)) = false := by decide) (hc : (x == ("__classdict__" : Str)) = false := by decide)
    (hs : swapsWith e (some (.Subscript (.Name x p) ie q)) pos.line env = pure false := by rfl) :
    Ex1 G n env σ (.Assign [.Subscript (.Name x p) ie q] e pos) fun fl σ' => fl = .next ∧ σ' = setS x (.own a (ds.set k' d)) σ := fun ok A s E r k i => by
  refine wpAny_Assign_Subscript (wpAny_mono (h ok A s E r k i) (fun v s₁ p₁ => ?_) fun _ _ x => x) hs
  obtain ⟨st₁, rv⟩ := p₁
  have i₁ := i.ext st₁.ext
  obtain ⟨hv, _⟩ := i₁.owns x a ds l
  refine wpAny_holds i₁.frame.kind hv ?_ hd hc
  refine wpAny_mono (hi ok A s₁ E r (st₁.ext.base k) i₁) (fun vi s₂ p₂ => ?_) fun _ _ x => x
  obtain ⟨st₂, rp⟩ := p₂
  cases rp
  have i₂ := i₁.ext st₂.ext
  obtain ⟨hv₂, o, vs, ⟨m, hm⟩, rs⟩ := i₂.owns x a ds l
  have st := st₁.trans st₂
  have fin : ∀ h', h' = s₂.heap.update a (Obj.mapSeq (·.setIfInBounds k' v)) → After G env σ ok s (fun fl σ' => fl = .next ∧ σ' = setS x (.own a (ds.set k' d)) σ) .next { s₂ with heap := h' } := by
    rintro h' rfl
    have hl : OwnL (s₂.heap.update a (Obj.mapSeq (·.setIfInBounds k' v))) a (vs.set k' v) := by
      have q := PySem.IsL.update hm (fun x => x.setIfInBounds k' v)
      refine ⟨m, q.trans ?_⟩
      have e1 : vs.toArray.setIfInBounds k' v = (vs.set k' v).toArray := by apply Array.toList_inj.mp; simp
      rw [e1]; simp
    obtain ⟨i', m'⟩ := i₂.upd l (Heap.SameBut.update ..) hl (rs.set (rv.stp st₂))
    have mv := (st.mv (W := Wr env σ)).trans (m' s₂.toks) fun _ w => .inl w
    exact ⟨.next, _, ⟨rfl, rfl⟩, trivial, i', mv, mv.base k i.off, fun b w => .inl (owned_setS_same (es := ds.set k' d) l ▸ w)⟩
  have hlen := rs.length
  rcases hj with ⟨h0, rfl, h2, h3⟩ | ⟨h0, h1, h2, rfl⟩
  · exact ki_setAt hm h0 (by omega) (by rw [List.size_toArray, hlen]; omega) (fin _ rfl)
  · refine ki_setBack hm h0 (by rw [List.size_toArray, hlen]; exact h1) (by omega) ?_
    rw [List.size_toArray, hlen]
    exact fin _ rfl
end
end Mine
end
section
open PySem PySem.W PyProof.Rows PySem.Calls
set_option maxRecDepth 100000
namespace Mine
theorem own_inj {x y : Str} {a : Addr} {es fs : List D} : ∀ {σ : St}, (owned σ).Nodup → σ.lookup x = some (.own a es) → σ.lookup y = some (.own a fs) → x = y
  | (z, t) :: r, nd, hx, hy => by
    rw [List.lookup_cons] at hx hy
    rw [owned_cons] at nd
    cases ex : x == z with
    | true =>
      rw [ex] at hx; cases hx
      cases ey : y == z with
      | true => rw [beq_iff_eq.mp ex, beq_iff_eq.mp ey]
      | false =>
        rw [ey] at hy
        exact absurd (owned_of_lookup hy) (List.nodup_cons.mp nd).1
    | false =>
      rw [ex] at hx
      cases ey : y == z with
      | true =>
        rw [ey] at hy; cases hy
        exact absurd (owned_of_lookup hx) (List.nodup_cons.mp nd).1
      | false =>
        rw [ey] at hy
        exact own_inj (List.nodup_append.mp nd).2.1 hx hy
theorem owned_mem : ∀ {σ : St} {a : Addr}, a ∈ owned σ → ∃ x es, (x, Slot.own a es) ∈ σ
  | (z, t) :: r, a, h => by
    rw [owned_cons] at h
    rcases List.mem_append.mp h with h | h
    · cases t with
      | val d => cases h
      | own b es => rw [List.mem_singleton.mp h]; exact ⟨z, es, .head _⟩
    · obtain ⟨x, es, q⟩ := owned_mem h
      exact ⟨x, es, .tail _ q⟩
theorem Sub.mem {σ₀ σ : St} (h : Sub σ₀ σ) : ∀ {x s}, (x, s) ∈ σ₀ → σ.lookup x = some s := by
  induction σ₀ with
  | nil => intro _ _ q; cases q
  | cons y r ih =>
    intro x s q
    rcases List.mem_cons.mp q with q | q
    · cases q; exact h.1
    · exact ih h.2 q
theorem Sub.nodup {σ : St} (nd : (Mine.owned σ).Nodup) : ∀ {σ₀ : St}, (σ₀.map (·.1)).Nodup → Sub σ₀ σ → (Mine.owned σ₀).Nodup
  | [], _, _ => List.nodup_nil
  | (x, t) :: r, hn, hs => by
    rw [List.map_cons, List.nodup_cons] at hn
    have ih := Sub.nodup nd hn.2 hs.2
    cases t with
    | val d => exact ih
    | own a es =>
      refine List.nodup_cons.mpr ⟨fun q => ?_, ih⟩
      obtain ⟨y, fs, q⟩ := owned_mem q
      have : x = y := own_inj nd hs.1 (Sub.mem hs.2 q)
      exact hn.1 (List.mem_map.mpr ⟨_, q, this.symm⟩)
section
variable {G : Gr} {n : Nat} {env : Env} {σ : St} {sc : Scope}
theorem Ex.only {σ₀ : St} {body : List Stmt} {Q : Fl → St → Prop} (hs : Sub σ₀ σ) (h : Ex G n env σ₀ body Q) (hn : (σ₀.map (·.1)).Nodup := by simp; try decide) : Ex G n env σ body Q := fun ok A s E r k i =>
  wpAny_mono (h ok A s E r k (i.sub hs (Sub.nodup i.once hn hs))) (fun _ _ a => a.sub hs.owned) fun _ _ x => x
theorem Ex1.only {σ₀ : St} {st : Stmt} {Q : Fl → St → Prop} (hs : Sub σ₀ σ) (h : Ex1 G n env σ₀ st Q) (hn : (σ₀.map (·.1)).Nodup := by simp; try decide) : Ex1 G n env σ st Q := fun ok A s E r k i =>
  wpAny_mono (h ok A s E r k (i.sub hs (Sub.nodup i.once hn hs))) (fun _ _ a => a.sub hs.owned) fun _ _ x => x
theorem Ex.post {body : List Stmt} {Q Q' : Fl → St → Prop} (h : Ex G n env σ body Q) (hq : ∀ fl σ', Q fl σ' → Q' fl σ' ∨ ∃ σ₀, Sub σ₀ σ' ∧ (σ₀.map (·.1)).Nodup ∧ Q' fl σ₀) : Ex G n env σ body Q' := fun ok A s E r k i =>
  wpAny_mono (h ok A s E r k i) (fun f s' a => by
    obtain ⟨fl, σ', q, fi, i', m, k', o⟩ := a
    rcases hq fl σ' q with q' | ⟨σ₀, hs, hn, q'⟩
    · exact ⟨fl, σ', q', fi, i', m, k', o⟩
    exact ⟨fl, σ₀, q', fi, i'.sub hs (Sub.nodup i'.once hn hs), m, k', fun b w => o b (hs.owned b w)⟩) fun _ _ x => x
/-- what a turn of a loop leaves -/
def Turn {ι : Type} (S : ι → St) (K : St → Prop) (Q : Fl → St → Prop) (fl : Fl) (σ₂ : St) : Prop := match fl with
  | .next | .cont => ∃ p, Sub (S p) σ₂
  | .brk => K σ₂
  | .ret r => Q (.ret r) σ₂
/-- the same, with a word on the state's numbers -/
def TurnJ {ι : Type} (S : ι → St) (J : ι → Prop) (K : St → Prop) (Q : Fl → St → Prop) (fl : Fl) (σ₂ : St) : Prop := match fl with
  | .next | .cont => ∃ p, J p ∧ Sub (S p) σ₂
  | .brk => K σ₂
  | .ret r => Q (.ret r) σ₂
theorem Ex.forJ {ι : Type} {target iter : Expr} {body rest : List Stmt} {pos : Pos} {ds : List D} {f : D → St → St} {Q : Fl → St → Prop} (S : Nat → ι → St) (J : Nat → ι → Prop) (p₀ : ι) (hJ : J 0 p₀) (h0 : Sub (S 0 p₀) σ) (nd : ∀ i p, ((S i p).map (·.1)).Nodup)
    (hi : EvI G n env (S 0 p₀) iter target ds) (ht : ∀ d ∈ ds, AssD G n env target d (f d))
    (turn : ∀ i d p, ds[i]? = some d → J i p → Ex G n env (f d (S i p)) body (TurnJ (S (i + 1)) (J (i + 1)) (fun σ₂ => Ex G n env σ₂ rest Q) Q))
    (done : ∀ p, J ds.length p → Ex G n env (S ds.length p) rest Q) (hs : ∀ x, foldedSetIterable iter env x = pure x := by intro _; rfl) : Ex G n env σ (.For target iter body [] pos :: rest) Q := by
  refine Ex.cons (Ex1.only h0 ?_ (nd _ _))
  refine Ex1.for (f := f) hi ht (fun i σ₁ => ∃ p, J i p ∧ σ₁ = S i p) ⟨p₀, hJ, rfl⟩ (fun i d σ₁ hd hJ => ?_) (fun σ₁ hJ => ?_) hs
  · obtain ⟨p, hj, rfl⟩ := hJ
    refine (turn i d p hd hj).post fun fl σ' h => ?_
    cases fl with
    | next => obtain ⟨p', hj', hp⟩ := h; exact .inr ⟨_, hp, nd _ _, p', hj', rfl⟩
    | cont => obtain ⟨p', hj', hp⟩ := h; exact .inr ⟨_, hp, nd _ _, p', hj', rfl⟩
    | brk => exact .inl h
    | ret r => exact .inl h
  · obtain ⟨p, hj, rfl⟩ := hJ
    exact done p hj
theorem Ex.forS {ι : Type} {target iter : Expr} {body rest : List Stmt} {pos : Pos} {ds : List D} {f : D → St → St} {Q : Fl → St → Prop} (S : Nat → ι → St) (p₀ : ι) (h0 : Sub (S 0 p₀) σ) (nd : ∀ i p, ((S i p).map (·.1)).Nodup)
    (hi : EvI G n env (S 0 p₀) iter target ds) (ht : ∀ d ∈ ds, AssD G n env target d (f d))
    (turn : ∀ i d p, ds[i]? = some d → Ex G n env (f d (S i p)) body (Turn (S (i + 1)) (fun σ₂ => Ex G n env σ₂ rest Q) Q))
    (done : ∀ p, Ex G n env (S ds.length p) rest Q) (hs : ∀ x, foldedSetIterable iter env x = pure x := by intro _; rfl) : Ex G n env σ (.For target iter body [] pos :: rest) Q := by
  refine Ex.forJ S (fun _ _ => True) p₀ trivial h0 nd hi ht (fun i d p hd _ => (turn i d p hd).mono fun fl σ' h => ?_) (fun p _ => done p) hs
  cases fl with
  | next => obtain ⟨p, h⟩ := h; exact ⟨p, trivial, h⟩
  | cont => obtain ⟨p, h⟩ := h; exact ⟨p, trivial, h⟩
  | brk => exact h
  | ret r => exact h
end
end Mine
end
section
open PySem PySem.W PyProof.Rows PySem.Calls
set_option maxRecDepth 100000
namespace Mine
section
variable {G : Gr} {n : Nat} {env : Env} {σ : St} {sc : Scope}
theorem fn_ev {d : DefRec} {a : Addr} {p : Pos} (F : FnAt G d a) (hk : env.kindOf d.name = some .globalImplicit) (hd : (d.name == ("__debug__" : Str)) = false := by decide) : Ev G n env σ (.Name d.name p) (.raw (.ref a)) :=
  .global hk F.name (fun _ _ => .raw _) hd
theorem FnAt.callee {d : DefRec} {a : Addr} (F : FnAt G d a) : Callee G (.ref a) := by
  obtain ⟨o, pm, code, doc, h1, h2, _⟩ := F.obj
  exact .fn h1 h2
theorem CallD.fn1 {d : DefRec} {a : Addr} {d1 r : D} {x : Str} (F : FnAt G d a) (h : ∀ env, FEnv env d.scope → Ex G n env [(x, .val d1)] d.body fun fl _ => fl = .ret r)
    (hx : d.params.args.map (·.arg) = [x] := by rfl) (hb : ∀ pm code doc v, bindArgs (docDef d.name d.params d.body d.scope pm code doc) ⟨[v], []⟩ = pure [(x, v)] := by intros; rfl)
    (hkind : (d.params.args.all fun y => d.scope.names.lookup y.arg == some .local || d.scope.names.lookup y.arg == some .cell) = true := by rfl)
    (hco : d.scope.isCoroutine = false := by rfl) (hgen : d.scope.isGenerator = false := by rfl) (hk : d.scope.kind = .function := by rfl) : CallD G (n + 1) (.ref a) [d1] r := by
  refine CallD.def F (by rw [← List.length_map (f := fun y : Arg => y.arg), hx]; rfl) (fun pm code doc vs hl => ?_) hkind (by rw [hx]; simp) (fun env FE => ?_) hco hgen hk
  · rw [hx]
    obtain ⟨v, rfl⟩ := List.length_eq_one_iff.mp hl
    exact hb pm code doc v
  · rw [hx]; exact h env FE
theorem CallD.fn2 {d : DefRec} {a : Addr} {d1 d2 r : D} {x y : Str} (F : FnAt G d a) (h : ∀ env, FEnv env d.scope → Ex G n env [(x, .val d1), (y, .val d2)] d.body fun fl _ => fl = .ret r)
    (hx : d.params.args.map (·.arg) = [x, y] := by rfl) (hxy : x ≠ y := by decide) (hb : ∀ pm code doc v w, bindArgs (docDef d.name d.params d.body d.scope pm code doc) ⟨[v, w], []⟩ = pure [(x, v), (y, w)] := by intros; rfl)
    (hkind : (d.params.args.all fun y => d.scope.names.lookup y.arg == some .local || d.scope.names.lookup y.arg == some .cell) = true := by rfl)
    (hco : d.scope.isCoroutine = false := by rfl) (hgen : d.scope.isGenerator = false := by rfl) (hk : d.scope.kind = .function := by rfl) : CallD G (n + 1) (.ref a) [d1, d2] r := by
  refine CallD.def F (by rw [← List.length_map (f := fun y : Arg => y.arg), hx]; rfl) (fun pm code doc vs hl => ?_) hkind (by rw [hx]; simp [hxy]) (fun env FE => ?_) hco hgen hk
  · rw [hx]
    match vs, hl with
    | [v, w], _ => exact hb pm code doc v w
  · rw [hx]; exact h env FE
/-- while with a test that makes something -/
theorem Ex.whileT (P : Shared → Prop) {ι : Type} {test : Expr} {body rest : List Stmt} {pos : Pos} {Q : Fl → St → Prop} (S : ι → St) (m : ι → Nat) (c : ι → Bool) (p₀ : ι) (h0 : Sub (S p₀) σ) (nd : ∀ p, ((S p).map (·.1)).Nodup)
    (ht : ∀ p ok A s E, Room n A → G.base.StaysIn s.heap → Inv G.base ok env (S p) s.heap → wpAny G.M A (isTrue test env (eval test env)) (fun r s' => (Stp G.base s s' ∧ r = c p) ∧ P s') E s)
    (turn : ∀ p, c p = true → ∀ ok A s E, P s → Room n A → G.base.StaysIn s.heap → Inv G.base ok env (S p) s.heap → wpAny G.M A (execs body env) (After G env (S p) ok s fun fl σ₂ => match fl with
      | .next | .cont => ∃ p', m p' < m p ∧ Sub (S p') σ₂
      | .brk => Ex G n env σ₂ rest Q
      | .ret r => Q (.ret r) σ₂) E s)
    (done : ∀ p, c p = false → Ex G n env (S p) rest Q) : Ex G n env σ (.While test body [] pos :: rest) Q := by
  refine Ex.cons (Ex1.only h0 (fun ok A s E r k i => ?_) (nd _))
  refine wpAny_While ?_
  refine codeAny_whileLoop (fun q s' => ∃ p, q = m p ∧ Inv G.base ok env (S p) s'.heap ∧ Mv G.base (Wr env (S p₀)) s s' ∧ G.base.StaysIn s'.heap ∧ ∀ a ∈ owned (S p), a ∈ owned (S p₀) ∨ s.heap.get? a = none) ?_ (m p₀) ⟨p₀, rfl, i, Stp.refl.mv, k, fun _ h => .inl h⟩
  rintro _ s' ⟨p, rfl, i', mv, k', ow⟩
  refine wpAny_mono (ht p ok A s' _ r k' i') (fun b s₂ q => ?_) fun _ _ x => x
  obtain ⟨⟨st, rfl⟩, htk⟩ := q
  have mv₂ : Mv G.base (Wr env (S p₀)) s s₂ := mv.trans (st.mv (W := fun _ => False)) fun _ f => f.elim
  have k₂ := st.ext.base k'
  have i₂ := i'.ext st.ext
  cases hc : c p with
  | true =>
    rw [if_pos rfl]
    refine wpAny_mono (turn p hc ok A s₂ _ htk r k₂ i₂) (fun f s₃ a => ?_) fun _ _ x => x
    obtain ⟨fl, σ', q, fi, i₃, m₃, k₃, o₃⟩ := a
    have mv₃ : Mv G.base (Wr env (S p₀)) s s₃ := mv₂.trans m₃ fun b w => by
      rcases w with w | w
      · exact .inl (.inl w)
      · exact (ow b w).imp .inr id
    have o₃' : ∀ a ∈ owned σ', a ∈ owned (S p₀) ∨ s.heap.get? a = none := fun a w => by
      rcases o₃ a w with w | w
      · exact ow a w
      · exact .inr (mv₂.dom a w)
    cases f <;> cases fl <;> first | exact fi.elim | skip
    · obtain ⟨p', hm, hs⟩ := q
      exact ⟨m p', hm, p', rfl, i₃.sub hs (Sub.nodup i₃.once (nd p') hs), mv₃, k₃, fun a w => o₃' a (hs.owned a w)⟩
    · exact ⟨.next, σ', q, trivial, i₃, mv₃, k₃, o₃'⟩
    · obtain ⟨p', hm, hs⟩ := q
      exact ⟨m p', hm, p', rfl, i₃.sub hs (Sub.nodup i₃.once (nd p') hs), mv₃, k₃, fun a w => o₃' a (hs.owned a w)⟩
    · exact ⟨.ret _, σ', q, fi, i₃, mv₃, k₃, o₃'⟩
  | false =>
    rw [if_neg (by simp)]
    exact wpAny_execs_nil ⟨.next, S p, done p hc, trivial, i₂, mv₂, k₂, ow⟩
theorem Ex.whileS {ι : Type} {test : Expr} {body rest : List Stmt} {pos : Pos} {Q : Fl → St → Prop} (S : ι → St) (m : ι → Nat) (c : ι → Bool) (p₀ : ι) (h0 : Sub (S p₀) σ) (nd : ∀ p, ((S p).map (·.1)).Nodup)
    (ht : ∀ p, Tr G n env (S p) test (c p))
    (turn : ∀ p, c p = true → Ex G n env (S p) body fun fl σ₂ => match fl with
      | .next | .cont => ∃ p', m p' < m p ∧ Sub (S p') σ₂
      | .brk => Ex G n env σ₂ rest Q
      | .ret r => Q (.ret r) σ₂)
    (done : ∀ p, c p = false → Ex G n env (S p) rest Q) : Ex G n env σ (.While test body [] pos :: rest) Q :=
  Ex.whileT (fun _ => True) S m c p₀ h0 nd (fun p ok A s E r k i => wpAny_mono (ht p ok A s E r k i) (fun _ _ q => ⟨q, trivial⟩) fun _ _ x => x) (fun p hp ok A s E _ r k i => turn p hp ok A s E r k i) done
end
end Mine
end
section
open PySem PySem.W PyProof.Rows PySem.Calls
set_option maxRecDepth 100000
namespace Mine
section
variable {p : Program} {loose : List Str} {mean : ExcName → Option Value} {mg mb : Str → Option Value} {s₁ : Shared} {prog : Program} {w : World}
/-- the ground behind the top -/
def groundOf (T : Top p loose mean mg mb s₁.heap) (prog : Program) (w : World) : Gr := ⟨prog, w, s₁.heap, mg, mb, T.g, T.b, T.builtins, T.nolimit⟩
theorem fnAt_of (T : Top p loose mean mg mb s₁.heap) {d : DefRec} (j : Nat) (h : (recsOf p)[j]? = some d) : ∃ a, FnAt (groundOf T prog w) d a := by
  obtain ⟨a, o, pm, code, doc, h1, h2, h3, h4⟩ := T.fn d (List.mem_of_getElem? h)
  exact ⟨a, h1, o, pm, code, doc, h2, h3, h4⟩
theorem fnAt_law (T : Top p loose mean mg mb s₁.heap) {d : DefRec} {fa : Addr} (hmg : mg d.name = some (.ref fa)) (j : Nat) (h : (recsOf p)[j]? = some d) : FnAt (groundOf T prog w) d fa := by
  obtain ⟨a, F⟩ := fnAt_of (prog := prog) (w := w) T j h
  have : mg d.name = some (.ref a) := F.name
  rw [hmg] at this; cases this
  exact F
theorem free_of (T : Top p loose mean mg mb s₁.heap) (x : Str) (h : (startupNames.contains x || loose.contains x || ((recsOf p).map (·.name)).contains x || ((litsOf p).map (·.1)).contains x || ((clssOf p loose).map (·.name)).contains x) = false) : (groundOf T prog w).mg x = none := by
  simp only [Bool.or_eq_false_iff] at h
  have q : ∀ {l : List Str}, l.contains x = false → x ∉ l := fun hl hm => by rw [List.contains_iff_mem.mpr hm] at hl; cases hl
  exact T.free x (q h.1.1.1.1) (q h.1.1.1.2) (q h.1.1.2) (q h.1.2) (q h.2)
theorem str_of (T : Top p loose mean mg mb s₁.heap) (x y : Str) (h : valOf p x = some (.str y)) : ∃ t, (groundOf T prog w).mg x = some (.str y t) := by
  obtain ⟨v, h1, h2⟩ := T.const x _ h
  have := h2 s₁.heap
  cases this
  exact ⟨_, h1⟩
theorem rep_ints {ok : Addr → Prop} {h : Heap} : ∀ {vs : List Value} {ns : List Int}, IntsAre vs ns → RepAll ok h vs (ns.map .int)
  | _, _, .nil => .nil
  | _, _, .cons n t r => .cons (.int n t) (rep_ints r)
end
end Mine
end
section
open PySem PySem.W PyProof.Rows PySem.Calls
set_option maxRecDepth 100000
namespace Mine
open Builtin.Str StrLaws
/-- the places of a sign, at most k of them -/
def pos (c : Nat) : Nat → Nat → List Nat → List Nat
  | _, _, [] => []
  | 0, _, _ => []
  | k + 1, a, x :: r => if x = c then a :: pos c k (a + 1) r else pos c (k + 1) (a + 1) r
theorem pos_zero (c a : Nat) (l : List Nat) : pos c 0 a l = [] := by cases l <;> rfl
/-- a text cut at a sign, at most k times -/
def cutN (c : Nat) : Nat → List Nat → List (List Nat)
  | _, [] => [[]]
  | 0, l => [l]
  | k + 1, x :: r => if x = c then [] :: cutN c k r else match cutN c (k + 1) r with
    | h :: t => (x :: h) :: t
    | [] => [[x]]
theorem cutN_zero (c : Nat) (l : List Nat) : cutN c 0 l = [l] := by cases l <;> rfl
theorem cutN_ne (c : Nat) : ∀ (k : Nat) (l : List Nat), ∃ h t, cutN c k l = h :: t
  | k, [] => ⟨_, _, by cases k <;> rfl⟩
  | 0, x :: l => ⟨_, _, rfl⟩
  | k + 1, x :: r => by
    unfold cutN
    split
    · exact ⟨_, _, rfl⟩
    · obtain ⟨h, t, e⟩ := cutN_ne c (k + 1) r
      rw [e]; exact ⟨_, _, rfl⟩
theorem subAt_one {l : List Nat} {c i : Nat} : subAt ⟨l.toArray⟩ ⟨#[c]⟩ i = decide (l[i]? = some c) := by
  unfold subAt
  show (l.toArray.extract i (i + 1) == #[c]) = _
  rw [show (l.toArray.extract i (i + 1)) = ((l.drop i).take 1).toArray from by apply Array.toList_inj.mp; simp]
  cases e : l[i]? with
  | none =>
    have : l.drop i = [] := List.drop_eq_nil_of_le (by simpa using List.getElem?_eq_none_iff.mp e)
    rw [this]; rfl
  | some x =>
    obtain ⟨hi, hx⟩ := List.getElem?_eq_some_iff.mp e
    rw [List.drop_eq_getElem_cons hi, hx]
    simp; rfl
theorem occ_loop (l : List Nat) (c k : Nat) : ∀ (m a : Nat) (acc : Array Nat) (free : Nat), free ≤ a → a + m = l.length + 1 →
    ((forIn (List.range' a m) (acc, free) (occBody ⟨l.toArray⟩ ⟨#[c]⟩ l.length k)).run).fst.toList = acc.toList ++ pos c (k - acc.size) a (l.drop a)
  | 0, a, acc, free, h, e => by
    rw [List.drop_eq_nil_of_le (by omega)]
    simp [pos]
  | m + 1, a, acc, free, h, e => by
    rw [List.range'_succ, List.forIn_cons]
    unfold occBody
    rw [subAt_one]
    show ((if ((acc.size < k ∧ free ≤ a) ∧ a + 1 ≤ l.length) ∧ decide (l[a]? = some c) = true then (pure (ForInStep.yield (acc.push a, a + 1)) : Id (ForInStep (Array Nat × Nat))) else pure (ForInStep.yield (acc, free))) >>= _ : Id (Array Nat × Nat)).run.fst.toList = _
    by_cases hl : a < l.length
    · rw [List.drop_eq_getElem_cons hl]
      by_cases hk : acc.size < k
      · obtain ⟨j, hj⟩ : ∃ j, k - acc.size = j + 1 := ⟨k - acc.size - 1, by omega⟩
        rw [hj]
        unfold pos
        by_cases hc : l[a] = c
        · rw [if_pos ⟨⟨⟨hk, h⟩, hl⟩, by simp [hl, hc]⟩, if_pos hc]
          refine (occ_loop l c k m (a + 1) (acc.push a) (a + 1) (Nat.le_refl _) (by omega)).trans ?_
          have : k - (acc.push a).size = j := by rw [Array.size_push]; omega
          rw [this]; simp
        · rw [if_neg (fun q => hc (by have := of_decide_eq_true q.2; rw [List.getElem?_eq_getElem hl] at this; exact Option.some.inj this)), if_neg hc]
          refine (occ_loop l c k m (a + 1) acc free (by omega) (by omega)).trans ?_
          rw [hj]
      · have hj : k - acc.size = 0 := by omega
        rw [if_neg (fun q => hk q.1.1.1)]
        refine (occ_loop l c k m (a + 1) acc free (by omega) (by omega)).trans ?_
        rw [hj, pos_zero, pos_zero]
    · rw [if_neg (fun q => hl q.1.2)]
      refine (occ_loop l c k m (a + 1) acc free (by omega) (by omega)).trans ?_
      rw [List.drop_eq_nil_of_le (by omega), List.drop_eq_nil_of_le (by omega)]
      cases k - acc.size <;> rfl
theorem occ_one (l : List Nat) (c k : Nat) : occurrences ⟨l.toArray⟩ ⟨#[c]⟩ 0 l.length k = pos c k 0 l := by
  rw [occ_eq]
  have := occ_loop l c k (l.length + 1 - 0) 0 #[] 0 (Nat.le_refl _) (by omega)
  simpa using this
abbrev S (l : List Nat) : Str := ⟨l.toArray⟩
theorem S_length (l : List Nat) : (S l).length = l.length := by show l.toArray.size = _; simp
theorem strSub_S (l : List Nat) (i j : Nat) : strSub (S l) i j = S ((l.drop i).take (j - i)) := by
  unfold strSub
  show (⟨l.toArray.extract i j⟩ : Str) = _
  congr 1
  apply Array.toList_inj.mp
  simp [List.extract_eq_take_drop]
theorem parts_pos (l : List Nat) (c : Nat) : ∀ (m k a b : Nat), b ≤ a → a + m = l.length →
    partsFrom (S l) 1 b (pos c k a (l.drop a)) = match cutN c k (l.drop a) with
      | h :: t => S ((l.drop b).take (a - b) ++ h) :: t.map S
      | [] => []
  | 0, k, a, b, h, e => by
    rw [List.drop_eq_nil_of_le (by omega : l.length ≤ a)]
    have : pos c k a [] = [] := by cases k <;> rfl
    rw [this]
    have : cutN c k [] = [[]] := by cases k <;> rfl
    rw [this]
    show [strSub (S l) b l.length] = _
    rw [strSub_S, ← e]
    simp
  | m + 1, 0, a, b, h, e => by
    rw [pos_zero, cutN_zero]
    show [strSub (S l) b l.length] = _
    rw [strSub_S]
    have e1 : (l.drop b).take (l.length - b) = l.drop b := List.take_of_length_le (by simp)
    have e2 : l.drop a = (l.drop b).drop (a - b) := by rw [List.drop_drop]; congr 1; omega
    rw [e1, e2]
    show _ = [S _]
    rw [List.take_append_drop]
  | m + 1, k + 1, a, b, h, e => by
    have hl : a < l.length := by omega
    rw [List.drop_eq_getElem_cons hl]
    unfold pos cutN
    by_cases hc : l[a] = c
    · rw [if_pos hc, if_pos hc]
      unfold partsFrom
      rw [parts_pos l c m k (a + 1) (a + 1) (Nat.le_refl _) (by omega), strSub_S]
      obtain ⟨h', t', e'⟩ := cutN_ne c k (l.drop (a + 1))
      rw [e']
      simp
    · rw [if_neg hc, if_neg hc, parts_pos l c m (k + 1) (a + 1) b (by omega) (by omega)]
      obtain ⟨h', t', e'⟩ := cutN_ne c (k + 1) (l.drop (a + 1))
      rw [e']
      show S (List.take (a + 1 - b) (l.drop b) ++ h') :: _ = S (List.take (a - b) (l.drop b) ++ l[a] :: h') :: _
      congr 2
      have e1 : a + 1 - b = (a - b) + 1 := by omega
      have e2 : (l.drop b)[a - b]? = some l[a] := by rw [List.getElem?_drop, show b + (a - b) = a by omega, List.getElem?_eq_getElem hl]
      rw [e1, List.take_add_one, e2]
      simp
theorem strKind_pos (x : Str) : 1 ≤ Builtin.Str.strKind x := by unfold Builtin.Str.strKind; split <;> (try split) <;> decide
theorem splitMax_one {l : List Nat} {c k : Nat} (hc : c < 256) : Txt.splitMax (S l) ⟨#[c]⟩ (k : Int) = (cutN c k l).map S := by
  unfold Txt.splitMax
  have hlim : limitOf (S l) (k : Int) = k := by unfold limitOf; rw [if_neg (by omega)]; simp
  rw [hlim]
  have hkind : Builtin.Str.strKind (⟨#[c]⟩ : Str) = 1 := by unfold Builtin.Str.strKind; rw [if_pos (by simp [hc])]
  have hylen : (⟨#[c]⟩ : Str).length = 1 := rfl
  have hxlen : (S l).length = l.length := by show l.toArray.size = _; simp
  rw [hkind, hylen, hxlen, occ_one]
  have main := parts_pos l c l.length k 0 0 (Nat.le_refl _) (by omega)
  rw [List.drop_zero] at main
  obtain ⟨h', t', e'⟩ := cutN_ne c k l
  rw [e'] at main ⊢
  have main' : partsFrom (S l) 1 0 (pos c k 0 l) = (h' :: t').map S := by rw [main]; simp
  by_cases h0 : l.length < 1
  · have : l = [] := List.length_eq_zero_iff.mp (by omega)
    subst this
    rw [if_pos (by simp)]
    have : pos c k 0 [] = [] := by cases k <;> rfl
    rw [this] at main'
    exact main'
  · rw [if_neg (by have := strKind_pos (S l); rw [Bool.or_eq_true, decide_eq_true_eq, decide_eq_true_eq]; omega)]
    split
    · rename_i h
      have h : pos c k 0 l = [] := by simpa using h
      rw [h] at main'
      rw [← main']
      show [S l] = [strSub (S l) 0 (S l).length]
      rw [strSub_S, hxlen]; simp
    · rw [partsBetween_eq]; exact main'
end Mine
end
section
open PySem PySem.W PyProof.Rows PySem.Calls
set_option maxRecDepth 100000
namespace Mine
theorem data_list {n : Nat} {ds : List D} (h : ∀ d ∈ ds, d.data n = true) : (D.list ds).data (n + 1) = true := by
  show D.datas n ds = true
  induction ds with
  | nil => rfl
  | cons d r ih =>
    show (D.data n d && D.datas n r) = true
    rw [h d (.head _), ih fun e q => h e (.tail _ q)]; rfl
theorem data_tuple {n : Nat} {ds : List D} (h : ∀ d ∈ ds, d.data n = true) : (D.tuple ds).data (n + 1) = true := data_list (ds := ds) h
/-- good code points -/
def Good (l : List Nat) : Prop := ∀ c ∈ l, c < 1114112
theorem Good.data {l : List Nat} (h : Good l) {n : Nat} : (D.str (S l)).data n = true := by
  have : PyData.strOk (S l) = true := by
    unfold PyData.strOk
    rw [Array.all_eq_true']
    intro c hc
    simpa using h c (by simpa using hc)
  cases n <;> exact this
def cutA (c : Nat) : List Nat → List (List Nat)
  | [] => [[]]
  | x :: r => if x = c then [] :: cutA c r else match cutA c r with
    | h :: t => (x :: h) :: t
    | [] => [[x]]
theorem cutN_cons (c k x : Nat) (r : List Nat) : cutN c (k + 1) (x :: r) = if x = c then [] :: cutN c k r else match cutN c (k + 1) r with
    | h :: t => (x :: h) :: t
    | [] => [[x]] := by first | rfl | (rw [cutN]; done) | (rw [cutN]; rfl)
theorem cutN_free {c k : Nat} : ∀ {p : List Nat}, c ∉ p → cutN c k p = [p]
  | [], _ => by cases k <;> rfl
  | x :: r, h => by
    cases k with
    | zero => rfl
    | succ k =>
      have hx : x ≠ c := fun e => h (by rw [e]; exact .head _)
      rw [cutN_cons, if_neg hx, cutN_free fun q => h (.tail _ q)]
theorem cutN_app {c k : Nat} {rest : List Nat} : ∀ {p : List Nat}, c ∉ p → cutN c (k + 1) (p ++ c :: rest) = p :: cutN c k rest
  | [], _ => by show cutN c (k + 1) (c :: rest) = _; rw [cutN_cons, if_pos rfl]
  | x :: r, h => by
    have hx : x ≠ c := fun e => h (by rw [e]; exact .head _)
    show cutN c (k + 1) (x :: (r ++ c :: rest)) = _
    rw [cutN_cons, if_neg hx, cutN_app fun q => h (.tail _ q)]
end Mine
end
section
open PySem PySem.W PyProof.Rows PySem.Calls
set_option maxRecDepth 100000
namespace Mine
section
variable {G : Gr} {n : Nat} {env : Env} {σ : St} {sc : Scope}
/-- an iterator whose own objects grow -/
structure ItrD (G : Gr) (A : Around) (ok : Addr → Prop) (target : Expr) (I : Addr) (ds : List D) (C : Addr → Prop) (wg : Nat → Prop) (Sx : Nat → (Addr → Prop) → Shared → Prop) : Prop where
  core : ∀ i F s, Sx i F s → ∀ a, C a → F a
  frame : ∀ i F s s' W, Sx i F s → Mv G.base W s s' → (∀ a, F a → ¬ W a) → (∀ a, ok a → IsNode s.heap a → ¬ W a) → Sx i F s'
  node : ∀ i F s a, Sx i F s → F a → ¬ IsNode s.heap a ∧ (s.heap.get? a).isSome = true
  item : ∀ i F d s E ok', ds[i]? = some d → Sx i F s → G.base.StaysIn s.heap → (∀ a, ok a → ok' a) → (∀ a, F a → ok' a) → FreshOk ok' s.heap → wpAny G.M A (pyNext (.ref I)) (fun r s₁ => ∃ v, r = some v ∧
    wpAny G.M A (letOwnedTupleGo target (.ref I) v) (fun _ s' => Rep ok' s'.heap v d ∧ MvI G.base F wg s s' ∧ ∃ F', Sx (i + 1) F' s' ∧ ∀ a, F' a → F a ∨ s.heap.get? a = none) E s₁) E s
  done : ∀ F s E, Sx ds.length F s → G.base.StaysIn s.heap → wpAny G.M A (pyNext (.ref I)) (fun r s' => r = none ∧ MvI G.base F wg s s') E s
def EvID (G : Gr) (n : Nat) (env : Env) (σ : St) (e target : Expr) (ds : List D) : Prop := ∀ ok A s E, Room n A → G.base.StaysIn s.heap → Inv G.base ok env σ s.heap →
  wpAny G.M A (eval e env) (fun x s₁ => wpAny G.M A (pyIter x) (fun it s' => Stp G.base s s' ∧ ∃ I wg Sx C, it = .ref I ∧
    ItrD G A (fun a => okO ok σ a ∧ (s'.heap.get? a).isSome = true) target I ds C wg Sx ∧ Sx 0 C s' ∧ (∀ a, C a → s.heap.get? a = none) ∧ ∀ g, wg g → s.gens[g]? = none) E s₁) E s
theorem fresh_not_wr {base : Heap} {ok : Addr → Prop} {h : Heap} {a : Addr} (i : Inv base ok env σ h) (h0 : h.get? a = none) : ¬ Wr env σ a := by
  rintro ((w | ⟨x, w⟩) | w)
  · obtain ⟨m, o, _, _, q, _⟩ := i.frame.ns; rw [← w, h0] at q; cases q
  · obtain ⟨_, o, q, _⟩ := i.frame.cells x a w; rw [h0] at q; cases q
  · obtain ⟨vs, l⟩ := i.there a w; have := l.some; rw [h0] at this; cases this
inductive FdI (G : Gr) (env : Env) (σ : St) (ok : Addr → Prop) (J : Nat → St → Prop) (Sx : Nat → (Addr → Prop) → Shared → Prop) (F₀ : Addr → Prop) (len : Nat) (s s₂ : Shared) (m : Nat) (s' : Shared) : Prop
  | mk (j : Nat) (σ₁ : St) (F : Addr → Prop) (hj : j ≤ len) (hm : m = len + 1 - j) (hJ : J j σ₁) (hSx : Sx j F s') (inv : Inv G.base ok env σ₁ s'.heap) (mv : Mv G.base (Wr env σ) s s') (hk : G.base.StaysIn s'.heap)
    (how : ∀ a ∈ owned σ₁, a ∈ owned σ ∨ s₂.heap.get? a = none) (hdom : ∀ b, s'.heap.get? b = none → s₂.heap.get? b = none) (hF : ∀ a, F a → s.heap.get? a = none) (hFo : ∀ a, F a → a ∉ owned σ₁) (hFs : ∀ a, F a → F₀ a ∨ s₂.heap.get? a = none) : FdI G env σ ok J Sx F₀ len s s₂ m s'
theorem Ex1.forD {target iter : Expr} {body : List Stmt} {pos : Pos} {ds : List D} {f : D → St → St} {Q : Fl → St → Prop} (hi : EvID G n env σ iter target ds) (ht : ∀ d ∈ ds, AssD G n env target d (f d)) (J : Nat → St → Prop) (h0 : J 0 σ)
    (turn : ∀ i d σ₁, ds[i]? = some d → J i σ₁ → Ex G n env (f d σ₁) body fun fl σ₂ => match fl with
      | .next | .cont => J (i + 1) σ₂
      | .brk => Q .next σ₂
      | .ret r => Q (.ret r) σ₂)
    (done : ∀ σ₁, J ds.length σ₁ → Q .next σ₁) (hs : ∀ x, foldedSetIterable iter env x = pure x := by intro _; rfl) : Ex1 G n env σ (.For target iter body [] pos) Q := fun ok A s E r k i => by
  refine wpAny_For (wpAny_mono (hi ok A s E r k i) (fun x s₁ p₁ => wpAny_mono p₁ (fun it s₂ p₂ => ?_) fun _ _ x => x) fun _ _ x => x) hs
  obtain ⟨st, I, wg, Sx, F₀, rfl, W, hst, hF₀, hwg⟩ := p₂
  have i₂ := i.ext st.ext
  refine codeAny_forLoop_any (FdI G env σ ok J Sx F₀ ds.length s s₂) ?_ (ds.length + 1)
    ⟨0, σ, F₀, Nat.zero_le _, rfl, h0, hst, i₂, st.mv, st.ext.base k, fun a w => .inl w, fun _ e => e, hF₀, fun a q w => fresh_not_wr i (hF₀ a q) (.inr w), fun a q => .inl q⟩
  rintro m s' ⟨j, σ₁, F, hj, rfl, hJ, hSx, hinv, hmv, hk, how, hdom, hF, hFo, hFs⟩
  have hfpw : ∀ a, F a → ¬ Wr env σ₁ a := fun a q w => by
    rcases w with w | w
    · exact fresh_not_wr i (hF a q) (.inl w)
    · exact hFo a q w
  have hok1 : ∀ a, (okO ok σ a ∧ (s₂.heap.get? a).isSome = true) → okO ok σ₁ a := fun a q => ⟨q.1.1, fun w => (how a w).elim q.1.2 fun z => by rw [z] at q; cases q.2⟩
  by_cases hlt : j < ds.length
  · have hd : ds[j]? = some ds[j] := List.getElem?_eq_getElem hlt
    refine wpAny_mono (W.item j F ds[j] s' _ (okO ok σ₁) hd hSx hk hok1 (fun a q => ⟨i.fresh a (hF a q), hFo a q⟩) hinv.freshO) (fun r' s₃ q => ?_) fun _ _ x => x
    obtain ⟨v, rfl, q⟩ := q
    refine wpAny_mono q (fun _ s₄ q => ?_) fun _ _ x => x
    obtain ⟨rp, mi, F', hSx', hdn⟩ := q
    have inv₄ := hinv.mvI mi hfpw (fun a w => (W.node j F s' a hSx w).1) fun b w => i.fresh b (hF b w)
    have mv₄ := MvI.after hmv mi (fun a w => hF a w) hwg
    have hk₄ := mv₄.base k i.off
    have hF'0 : ∀ a, F' a → s.heap.get? a = none := fun a q => (hdn a q).elim (hF a) fun z => hmv.dom a z
    have hF'o : ∀ a, F' a → a ∉ owned σ₁ := fun a q w => (hdn a q).elim (fun z => hFo a z w) fun z => by
      obtain ⟨vs, l⟩ := hinv.there a w; have := l.some; rw [z] at this; cases this
    have hF'w : ∀ a, F' a → ¬ Wr env σ₁ a := fun a q w => by
      rcases w with w | w
      · exact fresh_not_wr i (hF'0 a q) (.inl w)
      · exact hF'o a q w
    refine wpAny_mono (ht ds[j] (List.getElem_mem hlt) σ₁ ok A s₄ _ v r hk₄ inv₄ rp) (fun _ s₅ q => ?_) fun _ _ x => x
    obtain ⟨inv₅, mv₅, ow₅⟩ := q
    have mv₅' : Mv G.base (Wr env σ) s s₅ := mv₄.trans mv₅ fun a w => by
      rcases w with w | w
      · exact .inl (.inl w)
      · exact (how a w).imp .inr fun z => st.ext.none z
    have hk₅ := mv₅'.base k i.off
    have hSx₅ : Sx (j + 1) F' s₅ := W.frame (j + 1) F' s₄ s₅ _ hSx' mv₅ (fun a q => hF'w a q) fun a q nd w => by
      rcases w with w | w
      · exact node_not_frame inv₄.frame nd w
      · exact (hok1 a q).2 w
    refine wpAny_mono (turn j ds[j] σ₁ hd hJ ok A s₅ _ r hk₅ inv₅) (fun fl s₆ q => ?_) fun _ _ x => x
    obtain ⟨fl', σ₂, q, fi, inv₆, mv₆, hk₆, ow₆⟩ := q
    have mv₆' : Mv G.base (Wr env σ) s s₆ := mv₅'.trans mv₆ fun a w => by
      rcases w with w | w
      · exact .inl (.inl w)
      · exact (how a (ow₅ a w)).imp .inr fun z => st.ext.none z
    have dom₅ : ∀ b, s₅.heap.get? b = none → s₂.heap.get? b = none := fun b e => by
      have e4 := mv₅.dom b e
      by_cases z : F b
      · rcases hFs b z with z | z
        · have := (W.node _ _ _ b hSx' (W.core _ _ _ hSx' b z)).2; rw [e4] at this; cases this
        · exact z
      · exact hdom b (mi.dom b z e4)
    have hFs' : ∀ a, F' a → F₀ a ∨ s₂.heap.get? a = none := fun a q => (hdn a q).elim (hFs a) fun z => .inr (hdom a z)
    have how₆ : ∀ a ∈ owned σ₂, a ∈ owned σ ∨ s₂.heap.get? a = none := fun a w => by
      rcases ow₆ a w with w | w
      · exact how a (ow₅ a w)
      · exact .inr (dom₅ a w)
    have how₆' : ∀ a ∈ owned σ₂, a ∈ owned σ ∨ s.heap.get? a = none := fun a w => (how₆ a w).imp id fun z => st.ext.none z
    have hFo₆ : ∀ a, F' a → a ∉ owned σ₂ := fun a q w => by
      rcases ow₆ a w with w | w
      · exact hF'o a q (ow₅ a w)
      · have := (W.node _ _ _ a hSx₅ q).2; rw [w] at this; cases this
    have go : J (j + 1) σ₂ → ∃ m, m < ds.length + 1 - j ∧ FdI G env σ ok J Sx F₀ ds.length s s₂ m s₆ := fun hq =>
      ⟨ds.length + 1 - (j + 1), turn_lt hlt, j + 1, σ₂, F', hlt, rfl, hq, W.frame (j + 1) F' s₅ s₆ _ hSx₅ mv₆ (fun a q w => by
          rcases w with w | w
          · exact hF'w a q (.inl w)
          · exact hF'o a q (ow₅ a w)) (fun a q nd w => by
          rcases w with w | w
          · exact node_not_frame inv₅.frame nd w
          · exact (hok1 a q).2 (ow₅ a w)), inv₆, mv₆', hk₆, how₆, fun b e => dom₅ b (mv₆.dom b e), hF'0, hFo₆, hFs'⟩
    cases fl <;> cases fl' <;> first | exact fi.elim | skip
    · exact go q
    · exact ⟨.next, σ₂, q, trivial, inv₆, mv₆', hk₆, how₆'⟩
    · exact go q
    · exact ⟨.ret _, σ₂, q, fi, inv₆, mv₆', hk₆, how₆'⟩
  · have hjl : j = ds.length := Nat.le_antisymm hj (Nat.not_lt.mp hlt)
    subst hjl
    refine wpAny_mono (W.done F s' _ hSx hk) (fun r' s₃ q => ?_) fun _ _ x => x
    obtain ⟨rfl, mi⟩ := q
    have inv₃ := hinv.mvI mi hfpw (fun a w => (W.node _ F s' a hSx w).1) fun b w => i.fresh b (hF b w)
    have mv₃ := MvI.after hmv mi (fun a w => hF a w) hwg
    exact wpAny_execs_nil ⟨.next, σ₁, done σ₁ hJ, trivial, inv₃, mv₃, mv₃.base k i.off, fun a w => (how a w).imp id fun z => st.ext.none z⟩
theorem Ex.forDJ {ι : Type} {target iter : Expr} {body rest : List Stmt} {pos : Pos} {ds : List D} {f : D → St → St} {Q : Fl → St → Prop} (S : Nat → ι → St) (J : Nat → ι → Prop) (p₀ : ι) (hJ : J 0 p₀) (h0 : Sub (S 0 p₀) σ) (nd : ∀ i p, ((S i p).map (·.1)).Nodup)
    (hi : EvID G n env (S 0 p₀) iter target ds) (ht : ∀ d ∈ ds, AssD G n env target d (f d))
    (turn : ∀ i d p, ds[i]? = some d → J i p → Ex G n env (f d (S i p)) body (TurnJ (S (i + 1)) (J (i + 1)) (fun σ₂ => Ex G n env σ₂ rest Q) Q))
    (done : ∀ p, J ds.length p → Ex G n env (S ds.length p) rest Q) (hs : ∀ x, foldedSetIterable iter env x = pure x := by intro _; rfl) : Ex G n env σ (.For target iter body [] pos :: rest) Q := by
  refine Ex.cons (Ex1.only h0 ?_ (nd _ _))
  refine Ex1.forD (f := f) hi ht (fun i σ₁ => ∃ p, J i p ∧ σ₁ = S i p) ⟨p₀, hJ, rfl⟩ (fun i d σ₁ hd hJ => ?_) (fun σ₁ hJ => ?_) hs
  · obtain ⟨p, hj, rfl⟩ := hJ
    refine (turn i d p hd hj).post fun fl σ' h => ?_
    cases fl with
    | next => obtain ⟨p', hj', hp⟩ := h; exact .inr ⟨_, hp, nd _ _, p', hj', rfl⟩
    | cont => obtain ⟨p', hj', hp⟩ := h; exact .inr ⟨_, hp, nd _ _, p', hj', rfl⟩
    | brk => exact .inl h
    | ret r => exact .inl h
  · obtain ⟨p, hj, rfl⟩ := hJ
    exact done p hj
end
end Mine
end
section
open PySem PySem.W PyProof.Rows PySem.Calls
set_option maxRecDepth 100000
namespace Mine
section
variable {G : Gr} {n : Nat} {env : Env} {σ : St} {sc : Scope}
def nodeType (T : String) : Bool := (["list", "tuple", "slice", "range"] : List String).contains T
theorem not_node {h : Heap} {a : Addr} {o : Obj} {T : String} (e : h.get? a = some o) (c : o.cls = .type T) (hT : nodeType T = false) : ¬ IsNode h a := fun nd => by
  cases nd with
  | list l => obtain ⟨o₂, e₂, c₂, _⟩ := l; rw [e] at e₂; cases e₂; rw [c] at c₂; cases c₂; cases hT
  | tup l => obtain ⟨o₂, e₂, c₂, _⟩ := l; rw [e] at e₂; cases e₂; rw [c] at c₂; cases c₂; cases hT
  | slice e₂ c₂ _ => rw [e] at e₂; cases e₂; rw [c] at c₂; cases c₂; cases hT
  | rng e₂ => unfold IsRange at e₂; rw [e] at e₂; cases e₂; cases c; cases hT
theorem node_keep {base : Heap} {W : Addr → Prop} {h h' : Heap} {b : Addr} {o : Obj} (x : ExtBut base W h h') (nd : IsNode h b) (w : ¬ W b) (e : h.get? b = some o) : h'.get? b = some o := by
  obtain ⟨o', e', _, _, k'⟩ := x b o w e
  rw [e', k' (.inr ?_)]
  cases nd with
  | list l => obtain ⟨o₂, e₂, _, k, d⟩ := l; rw [e] at e₂; cases e₂; rw [d]; rfl
  | tup l => obtain ⟨o₂, e₂, _, k, d⟩ := l; rw [e] at e₂; cases e₂; rw [d]; rfl
  | slice e₂ _ d => rw [e] at e₂; cases e₂; rw [d]; rfl
  | rng e₂ => unfold IsRange at e₂; rw [e] at e₂; cases e₂; rfl
theorem MvI.of_keepL {base : Heap} {l : List Addr} {s : Shared} {h' : Heap} {tk : Nat} (h : ∀ b o, b ∉ l → s.heap.get? b = some o → h'.get? b = some o) : MvI base (· ∈ l) (fun _ => False) s { s with heap := h', toks := tk } :=
  ⟨fun b o w e => ⟨o, h b o w e, rfl, rfl, fun _ => rfl⟩, fun b w e => (by
    cases q : s.heap.get? b with
    | none => rfl
    | some o => (have := h b o w q; rw [show h'.get? b = none from e] at this; cases this)), rfl, fun _ _ _ e => e, fun q => q⟩
theorem Itr.of_walksT {A : Around} {ok : Addr → Prop} {elts : List Expr} {k : Nat} {pos : Pos} {I : Addr} {ds ds' : List D} {vs : List Value} {fpl wrl : List Addr} {m : Nat} {Pt : Nat → Array Value → Prop} {Stt : Nat → Heap → Prop} {Mid : Nat → Addr → Heap → Prop}
    (W : WalksT G.prog G.w A I fpl wrl m Pt Stt Mid) (hm : m = ds.length)
    (hfp : ∀ b ∈ fpl, b ∈ wrl ∨ (ok b ∧ ∀ i h, Stt i h → IsNode h b)) (hobj : ∀ i h, Stt i h → ∀ b ∈ wrl, ∃ o T, h.get? b = some o ∧ o.cls = .type T ∧ isDict o.data = false ∧ nodeType T = false)
    (hP : ∀ i vals d h, ds[i]? = some d → Pt i vals → RepAll ok h vs ds' → ∃ es, d = .tuple es ∧ RepAll ok h vals.toList es) :
    Itr G A ok (.Tuple elts k pos) I ds (· ∈ wrl) (· ∈ wrl) (fun _ => False) (fun i s => Stt i s.heap ∧ RepAll ok s.heap vs ds') where
  frame := fun i s s' W' hs mv hf hn => by
    refine ⟨W.frame i s.heap s'.heap hs.1 fun b hb o e => ?_, hs.2.extBut mv.ext hn fun _ q _ => q⟩
    rcases hfp b hb with q | ⟨q1, q2⟩
    · obtain ⟨o₁, T, e₁, _, d₁, _⟩ := hobj i _ hs.1 b q
      rw [e] at e₁; cases e₁
      obtain ⟨o', e', _, _, k'⟩ := mv.ext b o (hf b q) e
      rw [e', k' (.inr d₁)]
    · have nd := q2 i _ hs.1
      exact node_keep mv.ext nd (hn b q1 nd) e
  node := fun i s a hs ha => by
    obtain ⟨o, T, e, c, _, hT⟩ := hobj i _ hs.1 a ha
    exact ⟨not_node e c hT, by rw [e]; rfl⟩
  item := fun i d s E ok' hd hs kb hok hfr => by
    have hlt : i < m := by rw [hm]; exact (List.getElem?_eq_some_iff.mp hd).1
    refine W.item i s _ E hlt hs.1 fun T vals h' tk hp hT ht hmid hk => ?_
    refine ⟨_, rfl, W.go elts k pos i T _ _ E hmid fun h'' hst hk' => ?_⟩
    have hTw := W.apart i T h' hmid
    have mi : MvI G.base (· ∈ wrl) (fun _ => False) s { s with heap := h'', toks := tk } := .of_keepL fun b o w e => hk' b o w (hk b o w e)
    have rs : RepAll ok h'' vs ds' := hs.2.extBut mi.ext (fun a q nd z => by
      obtain ⟨o, T, e, c, _, hT⟩ := hobj i _ hs.1 a z
      exact not_node e c hT nd) fun _ q _ => q
    obtain ⟨es, rfl, res⟩ := hP i vals d h'' hd hp rs
    have hTf : s.heap.get? T = none := by
      cases q : s.heap.get? T with
      | none => rfl
      | some o => exact absurd (Heap.lt_size q) (Nat.not_lt.mpr hT)
    refine ⟨.tuple (hfr T hTf) ?_ (res.weak hok), ⟨hst, rs⟩, mi⟩
    obtain ⟨o, e, c, n', dd⟩ := ht
    exact ⟨o, hk' T o hTw e, c, n', by simpa using dd⟩
  done := fun s E hs kb => W.done s _ E (hm ▸ hs.1) fun h' tk hk => ⟨rfl, .of_keepL hk⟩
  self := fun i s Q E hs hq => W.self i s Q E hs.1 hq
/-- numbered -/
def enumL (ds : List D) : List D := ds.zipIdx.map fun p => .tuple [.int (p.2 : Nat), p.1]
theorem enumL_get {ds : List D} {i : Nat} {d : D} : (enumL ds)[i]? = some d ↔ ∃ e, ds[i]? = some e ∧ d = .tuple [.int (i : Nat), e] := by
  unfold enumL
  rw [List.getElem?_map, List.getElem?_zipIdx]
  cases ds[i]? <;> simp [eq_comm]
theorem enumL_length (ds : List D) : (enumL ds).length = ds.length := by simp [enumL]
end
end Mine
end
section
open PySem PySem.W PyProof.Rows PySem.Calls
set_option maxRecDepth 100000
namespace Mine
def Sg (M : Model) (A : Around) (P : End → Shared → Prop) (c : Code) (t : Sem Fin) (fs : List PySem.Frame) (s : Shared) : Prop :=
  ∀ Γ p, Γ.code = c → Γ.Woken A → ∃ e s', Runs M Γ p t fs s e s' ∧ P e s'
section
variable {M : Model} {A : Around} {P : End → Shared → Prop} {c : Code} {fs : List PySem.Frame} {s : Shared}
theorem Sg.wrap {α : Type} {m : Sem α} {K : α → Sem Fin} {H : Value → Sem Fin} {gd : Bool → Bool} {lv : List Value → List Value} (h : wpAny M (A.over c fs) m (fun a s' => Sg M A P c (K a) fs s') (fun x s' => Sg M A P c (H x) fs s') s) :
    Sg M A P c (m.wrap K H gd lv) fs s := fun Γ p hc hw => by
  subst hc
  exact runs_wrap_of_wp K H gd lv m (h (Γ.over fs) p (hw.over fs)) (fun a p' s' q => q Γ p' rfl hw) fun x p' s' q => q Γ p' rfl hw
theorem Sg.stand {q : Pos} {k : Unit → Sem Fin} (h : Sg M A P c (k ()) fs s) : Sg M A P c (.at q k) fs s := .wrap (m := standAt q) (H := .raise) (gd := id) (lv := id) (wpAny_standAt h)
theorem Sg.mark {l : List Value} {k : Unit → Sem Fin} (h : Sg M A P c (k ()) fs s) : Sg M A P c (.point l k) fs s := .wrap (m := point) (H := .raise) (gd := id) (lv := fun _ => l) (wpAny_point h)
theorem Sg.enter {c' : Code} {h : Option Value} {g : Bool} {l : List Value} {k : Result → Sem Fin} (q : ∀ p, Sg M A P c' (M.den c') (.ret k h g l c p [] :: fs) s) : Sg M A P c (.call c' h g l k) fs s := fun Γ p hc hw => by
  subst hc
  obtain ⟨e, s', hr, he⟩ := q p (Γ.goto c') p rfl (hw.goto c')
  exact ⟨e, s', runs_call_seg hr, he⟩
theorem Sg.back {k : Result → Sem Fin} {h : Option Value} {g : Bool} {l : List Value} {c₁ : Code} {p₁ : Pos} {kp : List Value} (r : Result) (q : Sg M A P c₁ (k r) fs s) : Sg M A P c (leafOf r) (.ret k h g l c₁ p₁ kp :: fs) s := fun Γ p hc hw => by
  subst hc
  obtain ⟨e, s', hr, he⟩ := q (Γ.goto c₁) p₁ rfl (hw.goto c₁)
  exact ⟨e, s', Runs.pop r hr, he⟩
theorem Sg.again {c' : Code} (hq : c'.quiet = true) (q : Sg M A P c' (M.den c') fs s) : Sg M A P c (.pure (.again c')) fs s := fun Γ p hc hw => by
  subst hc
  obtain ⟨e, s', hr, he⟩ := q (Γ.goto c') p rfl (hw.goto c')
  exact ⟨e, s', Runs.head (c₁ := c') (fun _ _ x => .again hq x) hr, he⟩
theorem Sg.fin (r : Result) (h : P (.ret r) s) : Sg M A P c (leafOf r) [] s := fun Γ p hc _ => ⟨_, s, Runs.leaf r, h⟩
theorem Sg.out {v : Value} {g : Bool} {l : List Value} {k : Resume → Sem Fin} (hfs : splitAtGen fs = none) (h : ∀ p, P (.susp v g l k c p fs) s) : Sg M A P c (.yield v g l k) fs s := fun Γ p hc _ => by
  subst hc
  exact ⟨_, s, Runs.yield' fs hfs, h p⟩
/-- a generator's state goes on -/
def Goes1 (M : Model) (A : Around) (P : End → Shared → Prop) (gs : GenState) (s : Shared) : Prop := match gs with
  | .fresh c => Sg M A P c (M.den c) [] s
  | .suspended k _ c _ fs _ => Sg M A P c (k (.send .none)) fs s
  | _ => False
theorem wake1 {E : Value → Shared → Prop} {g : Nat} {gs : GenState} {l : List Value} {α : Type} {k : GenResult → Sem α} {Q : α → Shared → Prop} (hg : s.gens[g]? = some gs) (hgo : Goes1 M A P gs (s.setGen g .running)) (hq : ∀ e s', P e s' → e.quiet = true)
    (h : ∀ e s₁, P e s₁ → wpAny M A (k e.result) Q E (s₁.setGen g e.genState)) : wpAny M A (.resume g (.send .none) l k) Q E s := fun Γ p hΓ => by
  rw [Sem.wp_resume]
  cases gs with
  | fresh c =>
    obtain ⟨e, s₁, hr, he⟩ := hgo (Γ.wake c p) p rfl (hΓ.wake c p)
    refine ⟨e.result, s₁.setGen g e.genState, ?_, h e s₁ he Γ p hΓ⟩
    unfold Wakes; rw [hg]; exact ⟨e, s₁, hr, hq e s₁ he, rfl, rfl⟩
  | suspended k₀ l₀ c₀ p₀ fs₀ cl =>
    obtain ⟨e, s₁, hr, he⟩ := hgo (Γ.wake c₀ p) p₀ rfl (hΓ.wake c₀ p)
    refine ⟨e.result, s₁.setGen g e.genState, ?_, h e s₁ he Γ p hΓ⟩
    unfold Wakes; rw [hg]; exact ⟨e, s₁, hr, hq e s₁ he, rfl, rfl⟩
  | running => exact hgo.elim
  | finished => exact hgo.elim
end
section
variable {prog : Program} {w : World} {A : Around} {E : Value → Shared → Prop} {s : Shared} {P : End → Shared → Prop}
/-- next of a generator: a value, or its end -/
theorem next_gen {a : Addr} {g : Nat} {gs : GenState} {Q : Option Value → Shared → Prop} (hh : A.handled = none) (hl : s.heap.NoLimit) (hroom : A.depth < recursionLimit) (hg : s.heap.IsGen a g) (hgs : s.gens[g]? = some gs)
    (hgo : Goes1 (model prog w) A.in1 P gs (s.setGen g .running)) (hq : ∀ e s', P e s' → e.quiet = true)
    (hP : ∀ e s₁, P e s₁ → (∃ v gd l k c p fs, e = .susp v gd l k c p fs ∧ Q (some v) (s₁.setGen g e.genState)) ∨
      (e = .ret (.ok (.ret .none)) ∧ ∀ h', (∀ b o, s₁.heap.get? b = some o → h'.get? b = some o) → Q none { s₁.setGen g .finished with heap := h' })) :
    wpAny (model prog w) A (pyNext (.ref a)) Q E s := by
  unfold pyNext
  refine wpAny_bind (wpAny_attempt (wpAny_callSpecial?_slot (name := Str.ofString "__next__") hg.typeIs slot_gen_next (wpAny_call_entry slot_gen_next hg.typeIs entry_gen_next ?_ (args_gen_next _))))
  show wpAny _ A.in1 (Builtin.Generator.genWake (.ref a) (.send .none)) _ _ s
  unfold Builtin.Generator.genWake
  refine wpAny_bind (wpAny_holding (wpAny_genNumber hg (wpAny_bind (wpAny_genState hgs ?_))))
  cases gs with
  | running => exact hgo.elim
  | finished => exact hgo.elim
  | _ =>
    refine wpAny_bind (wpAny_roomToWake hl hroom ?_)
    show wpAny _ A.in1 (.resume g (.send .none) [] _) _ _ s
    refine wake1 hgs hgo hq fun e s₁ he => ?_
    rcases hP e s₁ he with ⟨v, gd, l, k, c, p, fs, rfl, hv⟩ | ⟨rfl, hn⟩
    · exact wpAny_pure ⟨v, rfl, wpAny_pure hv⟩
    · show wpAny _ A.in1 (newExc (.type "StopIteration") [] >>= _) _ _ _
      refine wpAny_bind ?_
      simp only [newExc, newTuple]
      refine wpAny_bind (wpAny_newObj_type ?_ (by size_fits))
      refine wpAny_bind (m := firstArgMember _ _) (wpAny_of_eq (a := Value.none) (by first | rfl | (simp only [firstArgMember]; rfl)) ?_)
      refine wpAny_newObj_type ?_ (by size_fits)
      simp only [raiseNew]
      refine wpAny_bind (wpAny_bind (wpAny_handled ?_))
      rw [show A.in1.handled = none from hh]
      refine wpAny_throw ?_
      refine wpAny_bind (wpAny_isInstance (T := "StopIteration") (b := true) ⟨_, Heap.get?_push_size _ rfl, rfl⟩ isSubtype_stop ?_)
      exact wpAny_pure (hn _ fun b o hb => Heap.get?_push_of_some _ (Heap.get?_push_of_some _ hb))
end
end Mine
end
section
open PySem PySem.W PyProof.Rows PySem.Calls
set_option maxRecDepth 100000
namespace Mine
/-- what others may do while a generator sleeps -/
def Cpt (base : Heap) (okc F : Addr → Prop) (h h₁ : Heap) : Prop := ∃ W : Addr → Prop, ExtBut base W h h₁ ∧ (∀ b, h₁.get? b = none → h.get? b = none) ∧ (∀ a, F a → ¬ W a) ∧ ∀ a, okc a → IsNode h a → ¬ W a
/-- a generator's stop: a value, or the end -/
def GStop (G : Gr) (okc C : Addr → Prop) (g : Nat) (s₁ : Shared) (F : Addr → Prop) (d : Option D) (go : GenState → (Addr → Prop) → Shared → Prop) (e : End) (s' : Shared) : Prop :=
  MvI G.base F (· = g) (s₁.setGen g .running) s' ∧ (s'.gens[g]?).isSome = true ∧ e.quiet = true ∧ match d with
    | none => e = .ret (.ok (.ret .none))
    | some d => (∃ v gd l k c p fs, e = .susp v gd l k c p fs ∧ Rep (fun b => okc b ∨ s₁.heap.get? b = none ∨ F b) s'.heap v d) ∧
      ∃ F', (∀ a, C a → F' a) ∧ (∀ a, F' a → F a ∨ s₁.heap.get? a = none) ∧ (∀ a, F' a → ¬ IsNode s'.heap a ∧ (s'.heap.get? a).isSome = true) ∧ go e.genState F' s'
def GenGo (G : Gr) (A : Around) (okc C : Addr → Prop) (g : Nat) : List D → GenState → (Addr → Prop) → Shared → Prop
  | [], gs, F, s => ∀ s₁, Cpt G.base okc F s.heap s₁.heap → G.base.StaysIn s₁.heap → (s₁.gens[g]?).isSome = true → Goes1 G.M A (GStop G okc C g s₁ F none fun _ _ _ => False) gs (s₁.setGen g .running)
  | d :: r, gs, F, s => ∀ s₁, Cpt G.base okc F s.heap s₁.heap → G.base.StaysIn s₁.heap → (s₁.gens[g]?).isSome = true → Goes1 G.M A (GStop G okc C g s₁ F (some d) (GenGo G A okc C g r)) gs (s₁.setGen g .running)
def GPost (G : Gr) (A : Around) (okc C : Addr → Prop) (g : Nat) (ds : List D) (s₁ : Shared) (F : Addr → Prop) : End → Shared → Prop := match ds with
  | [] => GStop G okc C g s₁ F none fun _ _ _ => False
  | d :: r => GStop G okc C g s₁ F (some d) (GenGo G A okc C g r)
theorem genGo_iff {G : Gr} {A : Around} {okc C : Addr → Prop} {g : Nat} {ds : List D} {gs : GenState} {F : Addr → Prop} {s : Shared} :
    GenGo G A okc C g ds gs F s ↔ ∀ s₁, Cpt G.base okc F s.heap s₁.heap → G.base.StaysIn s₁.heap → (s₁.gens[g]?).isSome = true → Goes1 G.M A (GPost G A okc C g ds s₁ F) gs (s₁.setGen g .running) := by
  cases ds <;> exact Iff.rfl
theorem node_fwd {base : Heap} {W : Addr → Prop} {h h' : Heap} {a : Addr} (x : ExtBut base W h h') (w : ¬ W a) (nd : IsNode h a) : IsNode h' a := by
  cases nd with
  | list l => obtain ⟨o, e, r⟩ := l; exact .list ⟨o, node_keep x (.list ⟨o, e, r⟩) w e, r⟩
  | tup l => obtain ⟨o, e, r⟩ := l; exact .tup ⟨o, node_keep x (.tup ⟨o, e, r⟩) w e, r⟩
  | slice e c d => exact .slice (node_keep x (.slice e c d) w e) c d
  | rng e => exact .rng (node_keep x (.rng e) w e)
theorem node_back {base : Heap} {W : Addr → Prop} {h h' : Heap} {a : Addr} (x : ExtBut base W h h') (w : ¬ W a) (hs : (h.get? a).isSome = true) (nd : IsNode h' a) : IsNode h a := by
  obtain ⟨o, e⟩ := Option.isSome_iff_exists.mp hs
  obtain ⟨o', e', c', d', k'⟩ := x a o w e
  cases nd with
  | list l => obtain ⟨o₂, e₂, c₂, n, d₂⟩ := l; rw [e'] at e₂; cases e₂; exact .list ⟨o, e, c'.symm.trans c₂, n, d'.symm.trans d₂⟩
  | tup l => obtain ⟨o₂, e₂, c₂, n, d₂⟩ := l; rw [e'] at e₂; cases e₂; exact .tup ⟨o, e, c'.symm.trans c₂, n, d'.symm.trans d₂⟩
  | slice e₂ c₂ d₂ => rw [e'] at e₂; cases e₂; exact .slice e (c'.symm.trans c₂) (d'.symm.trans d₂)
  | rng e₂ =>
    unfold IsRange at e₂
    rw [e'] at e₂; cases e₂
    have := k' (.inr (by rw [← d']; rfl))
    exact .rng (by unfold IsRange; rw [e, ← this])
theorem ExtBut.weak {base : Heap} {W W' : Addr → Prop} {h h' : Heap} (x : ExtBut base W h h') (k : ∀ a, W a → W' a) : ExtBut base W' h h' := fun b o w e => x b o (fun q => w (k b q)) e
theorem ExtBut.trans {base : Heap} {W : Addr → Prop} {h h' h'' : Heap} (x : ExtBut base W h h') (y : ExtBut base W h' h'') : ExtBut base W h h'' := fun b o w e => by
  obtain ⟨o', e', c', d', k'⟩ := x b o w e
  obtain ⟨o'', e'', c'', d'', k''⟩ := y b o' w e'
  refine ⟨o'', e'', c''.trans c', d''.trans d', fun q => ?_⟩
  have := k' q; subst this
  exact k'' q
theorem Cpt.refl {base : Heap} {okc F : Addr → Prop} {h : Heap} : Cpt base okc F h h := ⟨fun _ => False, fun b o _ e => ⟨o, e, rfl, rfl, fun _ => rfl⟩, fun _ e => e, fun _ _ h => h, fun _ _ _ h => h⟩
theorem Cpt.trans {base : Heap} {okc F : Addr → Prop} {a b c : Heap} (x : Cpt base okc F a b) (y : Cpt base okc F b c) : Cpt base okc F a c := by
  obtain ⟨W, m, q, h1, h2⟩ := x
  obtain ⟨W', m', q', h1', h2'⟩ := y
  refine ⟨fun p => W p ∨ W' p, (m.weak fun p h => .inl h).trans (m'.weak fun p h => .inr h), fun p e => q p (q' p e), fun p hp h => h.elim (h1 p hp) (h1' p hp), fun p hp nd h => ?_⟩
  rcases h with h | h
  · exact h2 p hp nd h
  · exact h2' p hp (node_fwd m (h2 p hp nd) nd) h
theorem GenGo.cpt {G : Gr} {A : Around} {okc C : Addr → Prop} {g : Nat} {ds : List D} {gs : GenState} {F : Addr → Prop} {s s' : Shared} (h : GenGo G A okc C g ds gs F s) (x : Cpt G.base okc F s.heap s'.heap) : GenGo G A okc C g ds gs F s' :=
  genGo_iff.mpr fun s₁ y => genGo_iff.mp h s₁ (x.trans y)
theorem setGen_get {s : Shared} {g : Nat} {x : GenState} (h : (s.gens[g]?).isSome = true) : (s.setGen g x).gens[g]? = some x := by
  obtain ⟨y, e⟩ := Option.isSome_iff_exists.mp h
  obtain ⟨hi, _⟩ := Array.getElem?_eq_some_iff.mp e
  show (s.gens.setIfInBounds g x)[g]? = _
  simp [hi]
theorem setGen_ne {s : Shared} {g i : Nat} {x : GenState} (h : i ≠ g) : (s.setGen g x).gens[i]? = s.gens[i]? := by
  show (s.gens.setIfInBounds g x)[i]? = _
  rw [Array.getElem?_setIfInBounds_ne (Ne.symm h)]
theorem setGen_bare {s : Shared} {g : Nat} {x : GenState} (h : ∀ y ∈ s.gens, y.bare = true) (hx : x.bare = true) : ∀ y ∈ (s.setGen g x).gens, y.bare = true := fun y hy => by
  obtain ⟨i, hi, rfl⟩ := Array.mem_iff_getElem.mp hy
  by_cases e : i = g
  · subst e
    have hi' : i < s.gens.size := by simpa [Shared.setGen] using hi
    have : (s.gens.setIfInBounds i x)[i]? = some x := by simp [hi']
    have h2 := Array.getElem?_eq_getElem (xs := (s.setGen i x).gens) hi
    have h3 : (s.setGen i x).gens[i]? = some x := this
    rw [h3] at h2; rw [← Option.some.inj h2]; exact hx
  · have h2 := Array.getElem?_eq_getElem (xs := (s.setGen g x).gens) hi
    rw [setGen_ne e] at h2
    exact h _ (Array.mem_of_getElem? h2)
theorem bare_of_quiet {e : End} (h : e.quiet = true) : e.genState.bare = true := End.bare_of_quiet h
section
variable {G : Gr} {n : Nat} {env : Env} {σ : St} {sc : Scope}
/-- the state of a generator that is gone through -/
def GenSx (G : Gr) (A : Around) (okc C : Addr → Prop) (I : Addr) (g : Nat) (ds : List D) (i : Nat) (FI : Addr → Prop) (s : Shared) : Prop :=
  ∃ F : Addr → Prop, FI = (fun a => F a ∨ a = I) ∧ (∀ a, C a → F a) ∧ ¬ F I ∧ s.heap.IsGen I g ∧ (∀ a, F a → ¬ IsNode s.heap a ∧ (s.heap.get? a).isSome = true) ∧ ∃ gs, s.gens[g]? = some gs ∧ GenGo G A okc C g (ds.drop i) gs F s
theorem isGen_node {h : Heap} {I : Addr} {g : Nat} (q : h.IsGen I g) : ¬ IsNode h I ∧ (h.get? I).isSome = true := by
  obtain ⟨o, nm, qn, e, c, d, sl⟩ := q
  exact ⟨not_node e c rfl, by rw [e]; rfl⟩
theorem isGen_mv {base : Heap} {W : Addr → Prop} {h h' : Heap} {I : Addr} {g : Nat} (x : ExtBut base W h h') (w : ¬ W I) (q : h.IsGen I g) : h'.IsGen I g := by
  obtain ⟨o, nm, qn, e, c, d, sl⟩ := q
  obtain ⟨o', e', c', d', k'⟩ := x I o w e
  have : o' = o := k' (.inr (by rw [d]; rfl))
  subst this
  exact ⟨o', nm, qn, e', c, d, sl⟩
theorem MvI.unset {base : Heap} {F : Addr → Prop} {g : Nat} {s s₁ : Shared} {x : GenState} (m : MvI base F (· = g) (s.setGen g .running) s₁) (hx : x.bare = true) : MvI base F (· = g) s (s₁.setGen g x) :=
  ⟨m.ext, m.dom, m.os, fun i y hi e => by rw [setGen_ne hi]; exact m.gkeep i y hi (by rw [setGen_ne hi]; exact e), fun q => setGen_bare (m.gbare (setGen_bare q rfl)) hx⟩
theorem MvI.weak {base : Heap} {F F' : Addr → Prop} {wg : Nat → Prop} {s s' : Shared} (m : MvI base F wg s s') (h : ∀ a, F a → F' a) : MvI base F' wg s s' := ⟨m.ext.weak h, fun b w e => m.dom b (fun q => w (h b q)) e, m.os, m.gkeep, m.gbare⟩
theorem MvI.heap {base : Heap} {F : Addr → Prop} {wg : Nat → Prop} {s s' : Shared} {h' : Heap} (m : MvI base F wg s s') (k : ∀ b o, s'.heap.get? b = some o → h'.get? b = some o) : MvI base F wg s { s' with heap := h' } :=
  ⟨fun b o w e => by
    obtain ⟨o', e', r⟩ := m.ext b o w e
    exact ⟨o', k b o' e', r⟩, fun b w e => m.dom b w (by
    cases q : s'.heap.get? b with
    | none => rfl
    | some o => have := k b o q; rw [show h'.get? b = none from e] at this; cases this), m.os, m.gkeep, m.gbare⟩
theorem ItrD.gen {A : Around} {okc C : Addr → Prop} {target : Expr} {I : Addr} {g : Nat} {ds : List D} (hh : A.handled = none) (hroom : A.depth < recursionLimit) : ItrD G A okc target I ds (fun a => C a ∨ a = I) (· = g) (GenSx G A.in1 okc C I g ds) where
  core := fun i FI s hs a ha => by
    obtain ⟨F, rfl, hC, _⟩ := hs
    exact ha.imp (hC a) id
  frame := fun i FI s s' W hs mv hf hn => by
    obtain ⟨F, rfl, hC, h0, h1, h3, gs, h4, h5⟩ := hs
    refine ⟨F, rfl, hC, h0, isGen_mv mv.ext (hf I (.inr rfl)) h1, fun a ha => ⟨fun nd => (h3 a ha).1 (node_back mv.ext (hf a (.inl ha)) (h3 a ha).2 nd), ?_⟩, gs, mv.gens.keep g gs h4, h5.cpt ⟨W, mv.ext, mv.dom, fun a ha => hf a (.inl ha), hn⟩⟩
    cases q : s'.heap.get? a with
    | some _ => rfl
    | none => have := (h3 a ha).2; rw [mv.dom a q] at this; cases this
  node := fun i FI s a hs ha => by
    obtain ⟨F, rfl, hC, h0, h1, h3, _⟩ := hs
    rcases ha with ha | rfl
    · exact h3 a ha
    · exact isGen_node h1
  item := fun i FI d s E ok' hd hs kb hok hFok hfr => by
    obtain ⟨F, rfl, hC, h0, h1, h3, gs, h4, h5⟩ := hs
    have hdrop : ds.drop i = d :: ds.drop (i + 1) := by
      obtain ⟨hi, rfl⟩ := List.getElem?_eq_some_iff.mp hd
      exact List.drop_eq_getElem_cons hi
    rw [hdrop] at h5
    refine next_gen hh (G.nolimit.keeps kb) hroom h1 h4 (h5 s .refl kb (by rw [h4]; rfl)) (fun e s' q => q.2.2.1) fun e s₁ q => .inl ?_
    obtain ⟨mi, gin, hq, ⟨v, gd, l, k, c, p, fs, rfl, rp⟩, F', f1, f2, f3, go⟩ := q
    have mu := mi.unset (x := (End.susp v gd l k c p fs).genState) (bare_of_quiet hq)
    have hgen : (s₁.setGen g (End.susp v gd l k c p fs).genState).heap.IsGen I g := isGen_mv mi.ext h0 h1
    have hF'I : ¬ F' I := fun z => (f2 I z).elim h0 fun z => by have := (isGen_node h1).2; rw [z] at this; cases this
    refine ⟨v, gd, l, k, c, p, fs, rfl, v, rfl, ?_⟩
    obtain ⟨o, nm, qn, e, c', d', sl⟩ := id hgen
    refine letOwned_plain (o := o) e c' (by decide) ⟨?_, mu.weak fun a => .inl, fun a => F' a ∨ a = I, ⟨F', rfl, f1, hF'I, hgen, f3, _, setGen_get gin, go.cpt .refl⟩, fun a ha => ?_⟩
    · exact rp.weak fun b q => q.elim (hok b) fun z => z.elim (fun z => hfr b z) fun z => hFok b (.inl z)
    · rcases ha with ha | ha
      · exact (f2 a ha).imp .inl id
      · exact .inl (.inr ha)
  done := fun FI s E hs kb => by
    obtain ⟨F, rfl, hC, h0, h1, h3, gs, h4, h5⟩ := hs
    rw [List.drop_length] at h5
    refine next_gen hh (G.nolimit.keeps kb) hroom h1 h4 (h5 s .refl kb (by rw [h4]; rfl)) (fun e s' q => q.2.2.1) fun e s₁ q => .inr ?_
    obtain ⟨mi, gin, hq, rfl⟩ := q
    refine ⟨rfl, fun h' hk => ⟨rfl, ?_⟩⟩
    exact ((mi.unset (x := .finished) rfl).weak fun a => .inl).heap hk
end
end Mine
end
section
open PySem PySem.W PyProof.Rows PySem.Calls
set_option maxRecDepth 100000
namespace Mine
section
variable {G : Gr} {n : Nat} {env : Env} {σ : St} {sc : Scope} {A : Around} {okc : Addr → Prop} {g : Nat} {c : Code} {fs : List PySem.Frame} {FR : Addr → Prop} {Res : Heap → Prop} {ds : List D}
  {K : Flow → Sem Fin} {H : Value → Sem Fin} {gd : Bool → Bool} {lv : List Value → List Value}
def Stable (G : Gr) (okc FR : Addr → Prop) (Res : Heap → Prop) : Prop := ∀ h h' W, Res h → ExtBut G.base W h h' → (∀ a, FR a → ¬ W a) → (∀ a, okc a → IsNode h a → ¬ W a) → Res h'
/-- a generator's frame at work -/
structure Run (G : Gr) (okc : Addr → Prop) (g : Nat) (env : Env) (FR : Addr → Prop) (Res : Heap → Prop) (s₁ : Shared) (F₁ F : Addr → Prop) (σ : St) (s : Shared) : Prop where
  start : G.base.StaysIn s₁.heap
  base : G.base.StaysIn s.heap
  inv : Inv G.base (fun b => okc b ∨ s₁.heap.get? b = none ∨ F₁ b) env σ s.heap
  mv : MvI G.base F₁ (· = g) (s₁.setGen g .running) s
  up : ∀ a, FrW env a → F a
  dn : ∀ a, F a → F₁ a ∨ s₁.heap.get? a = none
  fr : ∀ a, FrW env a → F₁ a
  off : ∀ a, F₁ a → G.base.get? a = none
  nd : ∀ a, F a → ¬ IsNode s.heap a ∧ (s.heap.get? a).isSome = true
  sub : ∀ a, FR a → F a ∧ ¬ FrW env a
  res : Res s.heap
  own : owned σ = []
  gin : (s.gens[g]?).isSome = true
def Gs (G : Gr) (A : Around) (okc : Addr → Prop) (g : Nat) (env : Env) (c : Code) (fs : List PySem.Frame) (FR : Addr → Prop) (Res : Heap → Prop) (σ : St) (t : Sem Fin) (ds : List D) : Prop :=
  ∀ s₁ F₁ F s, Run G okc g env FR Res s₁ F₁ F σ s → Sg G.M A (GPost G A okc (FrW env) g ds s₁ F₁) c t fs s
theorem MvI.thenMv {base : Heap} {F W : Addr → Prop} {wg : Nat → Prop} {s s₁ s₂ : Shared} (i : MvI base F wg s s₁) (m : Mv base W s₁ s₂) (h : ∀ a, W a → F a ∨ s.heap.get? a = none) : MvI base F wg s s₂ := by
  refine ⟨fun b o w e => ?_, fun b w e => i.dom b w (m.dom b e), m.os.trans i.os, fun j x hj e => m.gens.keep j x (i.gkeep j x hj e), fun q => m.gens.bare (i.gbare q)⟩
  obtain ⟨o', e', c', d', k'⟩ := i.ext b o w e
  obtain ⟨o'', e'', c'', d'', k''⟩ := m.ext b o' (fun z => (h b z).elim w fun z => by rw [z] at e; cases e) e'
  refine ⟨o'', e'', c''.trans c', d''.trans d', fun q => ?_⟩
  have := k' q; subst this
  exact k'' q
/-- a step of the frame's own -/
theorem Run.step {s₁ s s' : Shared} {F₁ F : Addr → Prop} {σ' : St} (r : Run G okc g env FR Res s₁ F₁ F σ s) (st : Stable G okc FR Res) (i : Inv G.base (fun b => okc b ∨ s₁.heap.get? b = none ∨ F₁ b) env σ' s'.heap) (m : Mv G.base (Wr env σ) s s') (k : G.base.StaysIn s'.heap) (o : owned σ' = []) :
    Run G okc g env FR Res s₁ F₁ F σ' s' := by
  have hw : ∀ a, Wr env σ a → FrW env a := fun a w => by
    rcases w with w | w
    · exact w
    · rw [r.own] at w; cases w
  refine ⟨r.start, k, i, r.mv.thenMv m fun a w => .inl (r.fr a (hw a w)), r.up, r.dn, r.fr, r.off, fun a ha => ?_, r.sub, ?_, o, ?_⟩
  · have hs : (s'.heap.get? a).isSome = true := by
      cases q : s'.heap.get? a with
      | some _ => rfl
      | none => have := (r.nd a ha).2; rw [m.dom a q] at this; cases this
    refine ⟨fun nd => ?_, hs⟩
    by_cases hf : FrW env a
    · exact node_not_frame i.frame nd hf
    · exact (r.nd a ha).1 (node_back m.ext (fun w => hf (hw a w)) (r.nd a ha).2 nd)
  · exact st s.heap s'.heap _ r.res m.ext (fun a ha w => (r.sub a ha).2 (hw a w)) fun a _ nd w => node_not_frame r.inv.frame nd (hw a w)
  · obtain ⟨x, hx⟩ := Option.isSome_iff_exists.mp r.gin
    rw [m.gens.keep g x hx]; rfl
theorem Run.stp {s₁ s s' : Shared} {F₁ F : Addr → Prop} (r : Run G okc g env FR Res s₁ F₁ F σ s) (st : Stable G okc FR Res) (x : Stp G.base s s') : Run G okc g env FR Res s₁ F₁ F σ s' :=
  r.step st (r.inv.ext x.ext) x.mv (x.ext.base r.base) r.own
theorem Gs.nil (h : Gs G A okc g env c fs FR Res σ (K .next) ds) : Gs G A okc g env c fs FR Res σ ((execs [] env).wrap K H gd lv) ds := h
theorem Gs.cons {st : Stmt} {rest : List Stmt} (h : Gs G A okc g env c fs FR Res σ ((exec st env).wrap (fun f => match f with | .next => (execs rest env).wrap K H gd lv | f => K f) H gd lv) ds) :
    Gs G A okc g env c fs FR Res σ ((execs (st :: rest) env).wrap K H gd lv) ds := by
  rw [execs_cons_wrap]; exact h
theorem Gs.stmt {st : Stmt} (hr : Room n (A.over c fs)) (hst : Stable G okc FR Res) (h : Ex1 G n env σ st fun fl σ' => fl = .next ∧ owned σ' = [] ∧ Gs G A okc g env c fs FR Res σ' (K .next) ds) : Gs G A okc g env c fs FR Res σ ((exec st env).wrap K H gd lv) ds := fun s₁ F₁ F s r =>
  .wrap (wpAny_mono (h _ _ s _ hr r.base r.inv) (fun f s' a => by
    obtain ⟨fl, σ', ⟨rfl, o, q⟩, fi, i, m, k, _⟩ := a
    cases f <;> first | exact fi.elim | skip
    exact q s₁ F₁ F s' (r.step hst i m k o)) fun _ _ x => x)
theorem Gs.assign {x : Str} {e : Expr} {p pos : Pos} {d : D} (hr : Room n (A.over c fs)) (hst : Stable G okc FR Res) (h : Ev G n env σ e d) (hx : Storable env x) (ho : owned σ = []) (q : Gs G A okc g env c fs FR Res (setS x (.val d) σ) (K .next) ds) (hs : swapsWith e (some (.Name x p)) pos.line env = pure false := by rfl) :
    Gs G A okc g env c fs FR Res σ ((exec (.Assign [.Name x p] e pos) env).wrap K H gd lv) ds :=
  .stmt hr hst ((Ex1.assign h hx hs).mono fun fl σ' z => by obtain ⟨rfl, rfl⟩ := z; exact ⟨rfl, owned_setS_nil ho, q⟩)
theorem Gs.ite {t : Expr} {a b : List Stmt} {pos : Pos} {x : Bool} (hr : Room n (A.over c fs)) (hst : Stable G okc FR Res) (h : Tr G n env σ t x) (ha : x = true → Gs G A okc g env c fs FR Res σ ((execs a env).wrap K H gd lv) ds) (hb : x = false → Gs G A okc g env c fs FR Res σ ((execs b env).wrap K H gd lv) ds) :
    Gs G A okc g env c fs FR Res σ ((exec (.If t a b pos) env).wrap K H gd lv) ds := fun s₁ F₁ F s r => by
  rw [exec_If]
  show Sg _ _ _ _ (.at pos fun _ => ((isTrue t env (eval t env)) >>= fun y => if y = true then execs a env else execs b env).wrap K H gd lv) _ _
  refine .stand ?_
  rw [Sem.bind_eq_wrap', Sem.wrap_wrap]
  refine .wrap (wpAny_mono (h _ _ s _ hr r.base r.inv) (fun y s' q => ?_) fun _ _ x => x)
  obtain ⟨st, rfl⟩ := q
  have r' := r.stp hst st
  cases y with
  | true => exact ha rfl s₁ F₁ F s' r'
  | false => exact hb rfl s₁ F₁ F s' r'
/-- all that the frame knows is of one piece -/
def Plain : St → Bool
  | [] => true
  | (_, .val d) :: r => Atomic d && Plain r
  | (_, .own _ _) :: _ => false
theorem Plain.get {x : Str} {d : D} : ∀ {σ : St}, Plain σ = true → σ.lookup x = some (.val d) → Atomic d = true
  | (y, .val e) :: r, h, l => by
    rw [Plain, Bool.and_eq_true] at h
    rw [List.lookup_cons] at l
    cases q : x == y with
    | true => rw [q] at l; cases l; exact h.1
    | false => rw [q] at l; exact Plain.get h.2 l
theorem Plain.noOwn {x : Str} {a : Addr} {es : List D} : ∀ {σ : St}, Plain σ = true → σ.lookup x ≠ some (.own a es)
  | [], _ => nofun
  | (y, .val e) :: r, h => by
    rw [Plain, Bool.and_eq_true] at h
    rw [List.lookup_cons]
    cases x == y with
    | true => exact nofun
    | false => exact Plain.noOwn h.2
theorem Plain.owned : ∀ {σ : St}, Plain σ = true → Mine.owned σ = []
  | [], _ => rfl
  | (y, .val e) :: r, h => by rw [Plain, Bool.and_eq_true] at h; exact Plain.owned (σ := r) h.2
theorem Gs.yield {e : Expr} {yp pos : Pos} {d : D} {σ' : St} (hr : Room n (A.over c fs)) (hst : Stable G okc FR Res) (hfs : splitAtGen fs = none) (hgd : gd false = false) (hfg : fs.any Frame.guarded = false) (h : Ev G n env σ e d) (hsub : Sub σ' σ) (hp : Plain σ' = true)
    (hco : env.scope.isCoroutine = false) (q : Gs G A okc g env c fs FR Res σ' (K .next) ds) :
    Gs G A okc g env c fs FR Res σ ((exec (.Expr (.Yield (some e) yp) pos) env).wrap K H gd lv) (d :: ds) := fun s₁ F₁ F s r => by
  rw [exec_Expr env (.Yield (some e) yp) pos (by unfold interactive; rw [r.inv.frame.kind]; rfl) rfl]
  show Sg _ _ _ _ (.at pos fun _ => ((eval e env >>= fun v => (standAt yp >>= fun _ => yieldOut env v)) >>= fun x => dropValue (.Yield (some e) yp) pos x).wrap K H gd lv) _ _
  have hy : ∀ v, yieldOut env v = yieldValue v := fun v => by simp only [yieldOut, hco, Bool.false_eq_true, if_false]
  simp only [hy]
  refine .stand ?_
  rw [Sem.bind_eq_wrap', Sem.bind_eq_wrap', Sem.wrap_wrap, Sem.wrap_wrap]
  refine .wrap (wpAny_mono (h _ _ s _ hr r.base r.inv) (fun v s' p => ?_) fun _ _ x => x)
  obtain ⟨st, rp⟩ := p
  have r' := r.stp hst st
  refine .stand (.out hfs fun pp => ?_)
  refine ⟨r'.mv, r'.gin, by simp [End.quiet, hgd, hfg], ⟨v, _, _, _, _, _, _, rfl, rp.weak fun b q => q.1⟩, F, r'.up, r'.dn, r'.nd, ?_⟩
  refine genGo_iff.mpr fun s₂ hc hb hg => ?_
  show Sg G.M A _ c (K .next) fs (s₂.setGen g .running)
  obtain ⟨W, hx, hdom, hF, hok⟩ := hc
  have hno := Plain.owned hp
  refine q s₂ F F _ ⟨hb, hb, ?_, ⟨fun b o _ e => ⟨o, e, rfl, rfl, fun _ => rfl⟩, fun _ _ e => e, rfl, fun _ _ _ e => e, fun z => z⟩, fun a w => r'.up a w, fun _ z => .inl z, fun a w => r'.up a w, fun a ha => ?_, fun a ha => ?_, r'.sub, hst _ _ W r'.res hx (fun a ha => hF a (r'.sub a ha).1) hok, hno, ?_⟩
  · have hFr : ∀ a, FrW env a → ¬ W a := fun a w => hF a (r'.up a w)
    have i' := r'.inv
    have hh : ∀ y v, Holds env s'.heap y v → Holds env s₂.heap y v := fun y v q => by
      rcases q with ⟨k, mm, hns, rr⟩ | ⟨k, cc, hcc, rr⟩
      · obtain ⟨o, es, ep, e, d, rr'⟩ := hns
        obtain ⟨o', e', _, d', _⟩ := hx _ o (hFr _ (.inl rfl)) e
        exact .inl ⟨k, mm, ⟨o', es, ep, e', d'.trans d, rr'⟩, rr⟩
      · obtain ⟨o, e, d⟩ := rr
        obtain ⟨o', e', _, d', _⟩ := hx _ o (hFr _ (.inr ⟨y, hcc⟩)) e
        exact .inr ⟨k, cc, hcc, o', e', d'.trans d⟩
    refine ⟨⟨i'.frame.kind, ?_, fun y cc q => ?_, i'.frame.apart, i'.frame.away, i'.frame.glob, i'.frame.blt⟩, fun a w => ?_, fun b e => .inr (.inl e), fun y dd l => ?_, fun y a es l => absurd l (Plain.noOwn hp), fun a w => ?_, ?_⟩
    · obtain ⟨mm, o, es, ep, e, d, rr⟩ := i'.frame.ns
      obtain ⟨o', e', _, d', _⟩ := hx _ o (hFr _ (.inl rfl)) e
      exact ⟨mm, o', es, ep, e', d'.trans d, rr⟩
    · obtain ⟨v, o, e, d⟩ := i'.frame.cells y cc q
      obtain ⟨o', e', _, d', _⟩ := hx _ o (hFr _ (.inr ⟨y, q⟩)) e
      exact ⟨v, o', e', d'.trans d⟩
    · rcases w with w | w
      · exact i'.off a (.inl w)
      · rw [hno] at w; cases w
    · obtain ⟨u, p, rr⟩ := i'.vals y dd (hsub.get l)
      exact ⟨u, hh y u p, rr.atomic (Plain.get hp l)⟩
    · rw [hno] at w; cases w
    · rw [hno]; exact List.nodup_nil
  · rcases r'.dn a ha with z | z
    · exact r'.off a z
    · cases q : G.base.get? a with
      | none => rfl
      | some o =>
        rw [r'.start a o q] at z; cases z
  · refine ⟨fun nd => (r'.nd a ha).1 (node_back hx (hF a ha) (r'.nd a ha).2 nd), ?_⟩
    cases q : s₂.heap.get? a with
    | some _ => exact (by show (s₂.heap.get? a).isSome = true; rw [q]; rfl)
    | none => have := (r'.nd a ha).2; rw [hdom a q] at this; cases this
  · rw [setGen_get hg]; rfl
end
end Mine
end
section
open PySem PySem.W PyProof.Rows PySem.Calls
set_option maxRecDepth 100000
namespace Mine
section
variable {G : Gr} {n : Nat} {env : Env} {σ : St} {sc : Scope} {A : Around} {okc : Addr → Prop} {g : Nat} {c : Code} {fs : List PySem.Frame} {FR : Addr → Prop} {Res : Heap → Prop} {ds : List D}
  {K : Flow → Sem Fin} {H : Value → Sem Fin} {gd : Bool → Bool} {lv : List Value → List Value}
theorem Sg.bindw {M : Model} {P : End → Shared → Prop} {s : Shared} {α β : Type} {m : Sem α} {f : α → Sem β} {K : β → Sem Fin} (h : wpAny M (A.over c fs) m (fun a s' => Sg M A P c ((f a).wrap K H gd lv) fs s') (fun x s' => Sg M A P c (H x) fs s') s) :
    Sg M A P c ((m >>= f).wrap K H gd lv) fs s := by
  rw [Sem.bind_eq_wrap', Sem.wrap_wrap]; exact .wrap h
theorem Gs.only {σ₀ : St} {t : Sem Fin} (hs : Sub σ₀ σ) (h : Gs G A okc g env c fs FR Res σ₀ t ds) : Gs G A okc g env c fs FR Res σ t ds := fun s₁ F₁ F s r => by
  have ho : owned σ₀ = [] := List.eq_nil_iff_forall_not_mem.mpr fun a w => by have := hs.owned a w; rw [r.own] at this; cases this
  exact h s₁ F₁ F s ⟨r.start, r.base, r.inv.sub hs (by rw [ho]; exact List.nodup_nil), r.mv, r.up, r.dn, r.fr, r.off, r.nd, r.sub, r.res, ho, r.gin⟩
/-- an iterator that leans on the heap alone -/
structure ItrH (G : Gr) (okc : Addr → Prop) (target : Expr) (I : Addr) (es : List D) (fp : Addr → Prop) (Sx : Nat → Heap → Prop) : Prop where
  itr : ∀ A' : Around, A'.handled = none → Itr G A' okc target I es fp fp (fun _ => False) (fun i s => Sx i s.heap)
  frame : ∀ i h h' W, Sx i h → ExtBut G.base W h h' → (∀ a, fp a → ¬ W a) → (∀ a, okc a → IsNode h a → ¬ W a) → Sx i h'
def EvIA (G : Gr) (n : Nat) (env : Env) (σ : St) (okc : Addr → Prop) (Res : Heap → Prop) (e target : Expr) (es : List D) : Prop := ∀ ok A s E, Room n A → G.base.StaysIn s.heap → Inv G.base ok env σ s.heap → Res s.heap →
  wpAny G.M A (eval e env) (fun x s₁ => wpAny G.M A (pyIter x) (fun it s' => Stp G.base s s' ∧ ∃ I fp Sx, it = .ref I ∧ ItrH G okc target I es fp Sx ∧ Sx 0 s'.heap ∧ ∀ a, fp a → s.heap.get? a = none) E s₁) E s
/-- what a loop's turn may lean on -/
structure Lp (G : Gr) (n : Nat) (A : Around) (okc FR : Addr → Prop) (Res : Heap → Prop) (c : Code) (fs : List PySem.Frame) : Prop where
  room : Room n (A.over c fs)
  stable : Stable G okc FR Res
  split : splitAtGen fs = none
  quiet : fs.any Frame.guarded = false
theorem over_loop {A : Around} {target : Expr} {it : Value} {body : List Stmt} {env : Env} {k : Result → Sem Fin} {gb : Bool} {l : List Value} {c : Code} {p : Pos} {fs : List PySem.Frame} (r : Room n (A.over c fs)) :
    Room n (A.over (.forLoop target it body [] env) (.ret k none gb l c p [] :: fs)) := by
  refine ⟨?_, ?_, ?_⟩
  · have := r.handled
    simpa [Around.over, marksOver, Frame.marks, markOver] using this
  · have := r.depth
    have e : (Code.forLoop target it body [] env).weight = 0 := rfl
    simp only [Around.over, List.map_cons, Frame.where_, frameCount_cons, e] at this ⊢
    omega
  · have := r.units
    have e : (Code.forLoop target it body [] env).cUnits = 0 := rfl
    simp only [Around.over, List.map_cons, Frame.where_, unitsOf_cons, e] at this ⊢
    omega
theorem MvI.thenI {base : Heap} {F fp : Addr → Prop} {wg wg' : Nat → Prop} {s s₁ s₂ : Shared} (i : MvI base F wg s s₁) (m : MvI base fp wg' s₁ s₂) (h : ∀ a, fp a → F a ∨ s.heap.get? a = none) (hg : ∀ g, wg' g → wg g) : MvI base F wg s s₂ := by
  refine ⟨fun b o w e => ?_, fun b w e => ?_, m.os.trans i.os, fun j x hj e => m.gkeep j x (fun q => hj (hg j q)) (i.gkeep j x hj e), fun q => m.gbare (i.gbare q)⟩
  · obtain ⟨o', e', c', d', k'⟩ := i.ext b o w e
    obtain ⟨o'', e'', c'', d'', k''⟩ := m.ext b o' (fun z => (h b z).elim w fun z => by rw [z] at e; cases e) e'
    refine ⟨o'', e'', c''.trans c', d''.trans d', fun q => ?_⟩
    have := k' q; subst this
    exact k'' q
  · by_cases z : fp b
    · exact (h b z).elim (fun q => absurd q w) id
    · exact i.dom b w (m.dom b z e)
theorem Run.offF {s₁ s : Shared} {F₁ F : Addr → Prop} (r : Run G okc g env FR Res s₁ F₁ F σ s) : ∀ a, F a → G.base.get? a = none := fun a ha => by
  rcases r.dn a ha with z | z
  · exact r.off a z
  · cases q : G.base.get? a with
    | none => rfl
    | some o => rw [r.start a o q] at z; cases z
theorem Run.mvI {s₁ s s' : Shared} {F₁ F : Addr → Prop} (r : Run G okc g env FR Res s₁ F₁ F σ s) (mi : MvI G.base FR (fun _ => False) s s') :
    G.base.StaysIn s'.heap ∧ Inv G.base (fun b => okc b ∨ s₁.heap.get? b = none ∨ F₁ b) env σ s'.heap ∧ MvI G.base F₁ (· = g) (s₁.setGen g .running) s' ∧ (s'.gens[g]?).isSome = true := by
  refine ⟨fun b o e => ?_, r.inv.mvI mi (fun a ha w => ?_) (fun a ha => (r.nd a (r.sub a ha).1).1) fun b hb => ?_, r.mv.thenI mi (fun a ha => r.dn a (r.sub a ha).1) fun _ z => z.elim, ?_⟩
  · obtain ⟨o', e', _, _, k'⟩ := mi.ext b o (fun z => by rw [r.offF b (r.sub b z).1] at e; cases e) (r.base b o e)
    rw [e', k' (.inl (by rw [e]; rfl))]
  · rcases w with w | w
    · exact (r.sub a ha).2 w
    · rw [r.own] at w; cases w
  · exact .inr ((r.dn b (r.sub b hb).1).symm)
  · obtain ⟨x, hx⟩ := Option.isSome_iff_exists.mp r.gin
    rw [mi.gkeep g x (fun z => z) hx]; rfl
theorem Gs.forA {ι : Type} {target iter : Expr} {body : List Stmt} {pos : Pos} {es : List D} {f : D → St → St} (S : Nat → ι → St) (J : Nat → ι → Prop) (out : Nat → ι → List D) (p₀ : ι)
    (L : Lp G n A okc (fun _ => False) Res c fs) (hgd : gd false = false) (hJ : J 0 p₀) (h0 : Sub (S 0 p₀) σ) (hso : ∀ i p, owned (S i p) = [])
    (hi : EvIA G n env (S 0 p₀) okc Res iter target es) (ht : ∀ d ∈ es, AssD G n env target d (f d)) (hfo : ∀ d i p, owned (f d (S i p)) = [])
    (turn : ∀ (c' : Code) (fs' : List PySem.Frame) (FR' : Addr → Prop) (Res' : Heap → Prop) (KL : Flow → Sem Fin) (HL : Value → Sem Fin) (i : Nat) (d : D) (p : ι), Lp G n A okc FR' Res' c' fs' → es[i]? = some d → J i p →
      (∀ p', J (i + 1) p' → Gs G A okc g env c' fs' FR' Res' (S (i + 1) p') (KL .next) (out (i + 1) p')) → Gs G A okc g env c' fs' FR' Res' (f d (S i p)) ((execs body env).wrap KL HL id id) (out i p))
    (done : ∀ p, J es.length p → Gs G A okc g env c fs (fun _ => False) Res (S es.length p) (K .next) (out es.length p)) (hRes : ∀ h h' W, Res h → ExtBut G.base W h h' → (∀ a, okc a → IsNode h a → ¬ W a) → Res h')
    (hs : ∀ x, foldedSetIterable iter env x = pure x := by intro _; rfl) :
    Gs G A okc g env c fs (fun _ => False) Res σ ((exec (.For target iter body [] pos) env).wrap K H gd lv) (out 0 p₀) := by
  refine Gs.only h0 fun s₁ F₁ F s r => ?_
  rw [exec_For]
  refine .bindw (wpAny_standAt ?_)
  refine .bindw (wpAny_mono (hi _ _ s _ L.room r.base r.inv r.res) (fun x s₂ q => ?_) fun _ _ x => x)
  refine .bindw (wpAny_of_eq (hs x) ?_)
  refine .bindw (wpAny_standAt ?_)
  refine .bindw (wpAny_holding (wpAny_mono q (fun it s₃ q => ?_) fun _ _ x => x))
  obtain ⟨st, I, fp, Sx, rfl, W, hx0, hfp⟩ := q
  have r₃ := r.stp L.stable st
  show Sg _ _ _ _ (.call (.forLoop target (.ref I) body [] env) none (gd false) (lv []) _) _ _
  refine .enter fun pp => ?_
  generalize hc' : Code.forLoop target (.ref I) body [] env = c'
  generalize hfs' : (PySem.Frame.ret _ none (gd false) (lv []) c pp []) :: fs = fs'
  have room' : Room n (A.over c' fs') := by rw [← hc', ← hfs']; exact over_loop L.room
  have split' : splitAtGen fs' = none := by rw [← hfs']; show (splitAtGen fs).map _ = none; rw [L.split]; rfl
  have quiet' : fs'.any Frame.guarded = false := by rw [← hfs']; show (gd false || fs.any Frame.guarded) = false; rw [hgd, L.quiet]; rfl
  have stab' : ∀ j, Stable G okc fp (fun h => Sx j h ∧ Res h) := fun j h h' V q e1 e2 e3 => ⟨W.frame j h h' V q.1 e1 e2 e3, hRes h h' V q.2 e1 e3⟩
  have hA' : ∀ j, Lp G n A okc fp (fun h => Sx j h ∧ Res h) c' fs' := fun j => ⟨room', stab' j, split', quiet'⟩
  have It := W.itr (A.over c' fs') room'.handled
  -- the turns, from the last
  have loop : ∀ m i p, es.length - i = m → i ≤ es.length → J i p → Gs G A okc g env c' fs' fp (fun h => Sx i h ∧ Res h) (S i p) (G.M.den c') (out i p) := by
    intro m
    induction m with
    | zero =>
      intro i p hm hi' hj s₁ F₁ F s r
      have hil : i = es.length := by omega
      subst hil
      rw [← hc']
      show Sg _ _ _ _ ((forTurn target (.ref I) body [] env).onRaise (fun x => do noteFrame x env; theTreesLotGoes x)) _ _
      rw [Sem.onRaise_eq_wrap]
      unfold forTurn
      rw [hc']
      refine .bindw (wpAny_standAt ?_)
      refine .bindw (wpAny_onRaise (wpAny_mono (It.done s (fun _ _ => False) r.res.1 r.base) (fun r' s' q => ?_) fun _ _ f => f.elim))
      obtain ⟨rfl, mi⟩ := q
      show Sg _ _ _ _ (.pure (.again (.block [] env))) _ _
      refine .again rfl ?_
      show Sg _ _ _ _ (leafOf (.ok .next)) _ _
      rw [← hfs']
      refine .back (.ok .next) ?_
      -- the loop is left: the iterator's objects are let go
      obtain ⟨b', i', m', g'⟩ := r.mvI mi
      refine done p hj s₁ F₁ (FrW env) s' ⟨r.start, b', i', m', fun _ w => w, fun a w => .inl (r.fr a w), r.fr, r.off, fun a w => ⟨fun nd => node_not_frame i'.frame nd w, ?_⟩, nofun, hRes _ _ fp r.res.2 mi.ext (fun a _ nd z => (r.nd a (r.sub a z).1).1 nd), r.own, g'⟩
      rcases w with rfl | ⟨x, w⟩
      · obtain ⟨mm, o, _, _, e, _⟩ := i'.frame.ns; rw [e]; rfl
      · obtain ⟨v, o, e, _⟩ := i'.frame.cells x a w; rw [e]; rfl
    | succ m ih =>
      intro i p hm hi' hj s₁ F₁ F s r
      have hlt : i < es.length := by omega
      have hd : es[i]? = some es[i] := List.getElem?_eq_getElem hlt
      rw [← hc']
      show Sg _ _ _ _ ((forTurn target (.ref I) body [] env).onRaise (fun x => do noteFrame x env; theTreesLotGoes x)) _ _
      rw [Sem.onRaise_eq_wrap]
      unfold forTurn
      rw [hc']
      refine .bindw (wpAny_standAt ?_)
      have fr : FreshOk (okO (fun b => okc b ∨ s₁.heap.get? b = none ∨ F₁ b) (S i p)) s.heap := r.inv.freshO
      refine .bindw (wpAny_onRaise (wpAny_mono (It.item i es[i] s (fun _ _ => False) (okO (fun b => okc b ∨ s₁.heap.get? b = none ∨ F₁ b) (S i p)) hd r.res.1 r.base (fun a q => ⟨.inl q, by rw [hso]; simp⟩) fr) (fun r' s' q => ?_) fun _ _ f => f.elim))
      obtain ⟨v, rfl, q⟩ := q
      show Sg _ _ _ _ ((letOwnedTupleGo target (.ref I) v >>= fun _ => PySem.assign target env v >>= fun _ => execs body env >>= fun fl => match fl with
        | .next | .cont => again c'
        | .brk => pure (.done .next)
        | .ret v => pure (.done (.ret v))).wrap .pure _ id id) _ _
      refine .bindw (wpAny_mono q (fun _ s₄ q => ?_) fun _ _ f => f.elim)
      obtain ⟨rp, hSx', mi⟩ := q
      obtain ⟨b', i', m', g'⟩ := r.mvI mi
      have nd' : ∀ a, F a → ¬ IsNode s₄.heap a ∧ (s₄.heap.get? a).isSome = true := fun a ha => by
        by_cases z : fp a
        · exact It.node (i + 1) s₄ a hSx' z
        · refine ⟨fun nd => (r.nd a ha).1 (node_back mi.ext z (r.nd a ha).2 nd), ?_⟩
          cases q : s₄.heap.get? a with
          | some _ => rfl
          | none => have := (r.nd a ha).2; rw [mi.dom a z q] at this; cases this
      have r₄ : Run G okc g env fp (fun h => Sx (i + 1) h ∧ Res h) s₁ F₁ F (S i p) s₄ :=
        ⟨r.start, b', i', m', r.up, r.dn, r.fr, r.off, nd', r.sub, ⟨hSx', hRes _ _ fp r.res.2 mi.ext fun a _ nd z => (r.nd a (r.sub a z).1).1 nd⟩, r.own, g'⟩
      refine .bindw (wpAny_mono (ht es[i] (List.getElem_mem hlt) (S i p) _ _ s₄ _ v room' b' i' rp) (fun _ s₅ q => ?_) fun _ _ x => x)
      obtain ⟨i₅, m₅, o₅⟩ := q
      have b₅ : G.base.StaysIn s₅.heap := m₅.base b' i'.off
      have r₅ := r₄.step (stab' (i + 1)) i₅ m₅ b₅ (hfo _ _ _)
      rw [Sem.bind_eq_wrap', Sem.wrap_wrap]
      refine turn c' fs' fp (fun h => Sx (i + 1) h ∧ Res h) (fun f => (match f with
        | .next | .cont => again c'
        | .brk => pure (.done .next)
        | .ret v => pure (.done (.ret v)) : Sem Fin).wrap .pure _ id id) _ i es[i] p (hA' (i + 1)) hd hj (fun p' hj' => ?_) s₁ F₁ F s₅ r₅
      intro s₁ F₁ F s r
      show Sg _ _ _ _ (.pure (.again c')) _ _
      exact .again (by rw [← hc']; rfl) (ih (i + 1) p' (by omega) hlt hj' s₁ F₁ F s r)
  refine loop es.length 0 p₀ rfl (Nat.zero_le _) hJ s₁ F₁ (fun a => F a ∨ fp a) s₃ ⟨r₃.start, r₃.base, r₃.inv, r₃.mv, fun a w => .inl (r₃.up a w), fun a ha => ?_, r₃.fr, r₃.off, fun a ha => ?_, fun a ha => ⟨.inr ha, fun w => fresh_not_wr r.inv (hfp a ha) (.inl w)⟩, ⟨hx0, r₃.res⟩, r₃.own, r₃.gin⟩
  · rcases ha with ha | ha
    · exact r₃.dn a ha
    · by_cases z : F₁ a
      · exact .inl z
      · exact .inr (r.mv.dom a z (hfp a ha))
  · rcases ha with ha | ha
    · exact r₃.nd a ha
    · exact It.node 0 s₃ a hx0 ha
end
end Mine
end
section
open PySem PySem.W PyProof.Rows PySem.Calls
set_option maxRecDepth 100000
namespace Mine
section
variable {G : Gr} {n : Nat} {env : Env} {σ : St} {sc : Scope} {A : Around} {okc : Addr → Prop} {g : Nat} {c : Code} {fs : List PySem.Frame} {FR : Addr → Prop} {Res : Heap → Prop} {ds : List D}
  {K : Flow → Sem Fin} {H : Value → Sem Fin} {gd : Bool → Bool} {lv : List Value → List Value}
theorem ItrH.of_walksT {elts : List Expr} {k : Nat} {pos : Pos} {I : Addr} {es ds' : List D} {vs : List Value} {fpl wrl : List Addr} {m : Nat} {Pt : Nat → Array Value → Prop} {Stt : Nat → Heap → Prop} {Mid : Nat → Addr → Heap → Prop}
    (W : ∀ A' : Around, A'.handled = none → WalksT G.prog G.w A' I fpl wrl m Pt Stt Mid) (hm : m = es.length)
    (hfp : ∀ b ∈ fpl, b ∈ wrl ∨ (okc b ∧ ∀ i h, Stt i h → IsNode h b)) (hobj : ∀ i h, Stt i h → ∀ b ∈ wrl, ∃ o T, h.get? b = some o ∧ o.cls = .type T ∧ isDict o.data = false ∧ nodeType T = false)
    (hP : ∀ i vals d h, es[i]? = some d → Pt i vals → RepAll okc h vs ds' → ∃ es, d = .tuple es ∧ RepAll okc h vals.toList es) :
    ItrH G okc (.Tuple elts k pos) I es (· ∈ wrl) (fun i h => Stt i h ∧ RepAll okc h vs ds') where
  itr := fun A' hA => Itr.of_walksT (W A' hA) hm hfp hobj hP
  frame := fun i h h' V hs x hf hn => by
    refine ⟨(W callerA rfl).frame i h h' hs.1 fun b hb o e => ?_, hs.2.extBut x hn fun _ q _ => q⟩
    rcases hfp b hb with q | ⟨q1, q2⟩
    · obtain ⟨o₁, T, e₁, _, d₁, _⟩ := hobj i _ hs.1 b q
      rw [e] at e₁; cases e₁
      obtain ⟨o', e', _, _, k'⟩ := x b o (hf b q) e
      rw [e', k' (.inr d₁)]
    · have nd := q2 i _ hs.1
      exact node_keep x nd (hn b q1 nd) e
theorem EvIA.enumS {e : Expr} {x : Str} {p pos tp : Pos} {ts : List Expr} {k : Nat} (hk : env.kindOf "enumerate" = some .globalImplicit) (hg : G.mg "enumerate" = none) (h : Ev G n env σ e (.str x))
    (hns : noStar [e] = true := by rfl) (hplain : (backTo pos (starEach [e] env)).any (·.1) = false := by rfl) (he : starEach [e] env = (false, eval e env) :: starEach [] env := by rfl) :
    EvIA G n env σ okc Res (.Call (.Name "enumerate" p) [e] [] pos) (.Tuple ts k tp) (enumL (signs x)) := fun ok A s E r kb i _ => by
  have hb : Ev G n env σ (.Name "enumerate" p) (.raw (.type "enumerate")) := Ev.builtin hk hg boot_enumerate
  refine Call_ (wpAny_mono (hb ok A s E r kb i) (fun v s₁ p₁ => ?_) fun _ _ x => x)
  obtain ⟨st, rp⟩ := p₁
  cases rp
  have kb₁ := st.ext.base kb
  refine callWith_callee (G := G) (.type _) hplain (wpAny_mono ((EvL.cons h .nil he : EvL G n env σ [e] [.str x]) ok A s₁ E pos r kb₁ (i.ext st.ext)) (fun vs s₂ p₂ => ⟨p₂.1.ext.base kb₁, ?_⟩) fun _ _ x => x) hns
  obtain ⟨st₂, rs⟩ := p₂
  cases rs with
  | cons ra rs =>
    cases rs
    cases ra
    rename_i t
    have st12 := st.trans st₂
    refine call_enumerate_str fun h' he' hit hsz hkeep => ?_
    refine wpAny_pyIter_enum he' ?_
    have st₃ : Stp G.base s₂ { s₂ with heap := h' } := ⟨.of_stays hkeep, rfl, .refl⟩
    have D : ∀ A' : Around, A'.handled = none → Draws G.prog G.w A'.in1 s₂.heap.objs.size [s₂.heap.objs.size] x.cps.size (fun i v => ∃ c u, x.cps[i]? = some c ∧ v = .str ⟨#[c]⟩ u) (fun i h => h.IsStrIter s₂.heap.objs.size (strIterType x) x t i) := fun A' hA => by
      unfold strIterType
      cases x.cps.all (· < 128) with
      | true => exact Draws.strAscii (by exact hA) _ x t
      | false => exact Draws.strWide (by exact hA) _ x t
    have hne : s₂.heap.objs.size + 1 ≠ s₂.heap.objs.size := Nat.succ_ne_self _
    have W := fun A' hA => WalksT.enumerateD (A := A') (D A' hA) (s₂.heap.objs.size + 1) hne (by simp) (by simp)
    have hf0 : ∀ a, s₂.heap.objs.size ≤ a → s.heap.get? a = none := fun a ha => by
      cases q : s₂.heap.get? a with
      | none => exact st12.ext.none q
      | some o => exact absurd (Heap.lt_size q) (Nat.not_lt.mpr ha)
    have hT : nodeType (strIterType x) = false := by unfold strIterType; split <;> rfl
    refine ⟨st12.trans st₃, _, _, _, rfl, ItrH.of_walksT (vs := []) (ds' := []) W (by simp [enumL_length, signs]) (fun b hb => .inl ?_) ?_ ?_, ⟨⟨⟨_, he'⟩, hit⟩, .nil⟩, ?_⟩
    · simpa using hb
    · rintro j h ⟨⟨old, e1⟩, e2⟩ b hb
      simp only [List.mem_cons, List.not_mem_nil, or_false] at hb
      rcases hb with rfl | rfl
      · exact ⟨_, _, e1, rfl, rfl, rfl⟩
      · obtain ⟨o, e2, c2, d2⟩ := e2
        exact ⟨o, _, e2, c2, by rw [d2]; rfl, hT⟩
    · rintro j vals d h hd ⟨tk, y, ⟨c, u, hc, rfl⟩, rfl⟩ _
      obtain ⟨e', he2, rfl⟩ := enumL_get.mp hd
      simp [signs] at he2
      obtain ⟨c', hc', rfl⟩ := he2
      rw [hc] at hc'; cases hc'
      exact ⟨_, rfl, .cons (.int _ _) (.cons (.str _ _) .nil)⟩
    · intro a ha
      refine hf0 a ?_
      simp only [List.mem_cons, List.not_mem_nil, or_false] at ha
      rcases ha with rfl | rfl <;> omega
theorem Itr.any {A : Around} {ok : Addr → Prop} {target : Expr} {I : Addr} {ds : List D} {fp wr : Addr → Prop} {wg : Nat → Prop} {Sx : Nat → Shared → Prop} (W : Itr G A (fun _ => False) target I ds fp wr wg Sx) : Itr G A ok target I ds fp wr wg Sx :=
  ⟨fun i s s' W' a b c _ => W.frame i s s' W' a b c fun _ z => z.elim, W.node, fun i d s E ok' a b c _ => W.item i d s E ok' a b c fun _ z => z.elim, W.done, W.self⟩
theorem EvI.enumS {e : Expr} {x : Str} {p pos tp : Pos} {ts : List Expr} {k : Nat} (hk : env.kindOf "enumerate" = some .globalImplicit) (hg : G.mg "enumerate" = none) (h : Ev G n env σ e (.str x))
    (hns : noStar [e] = true := by rfl) (hplain : (backTo pos (starEach [e] env)).any (·.1) = false := by rfl) (he : starEach [e] env = (false, eval e env) :: starEach [] env := by rfl) :
    EvI G n env σ (.Call (.Name "enumerate" p) [e] [] pos) (.Tuple ts k tp) (enumL (signs x)) := fun ok A s E r kb i =>
  wpAny_mono (EvIA.enumS (okc := fun _ => False) (Res := fun _ => True) hk hg h hns hplain he ok A s E r kb i trivial) (fun x s₁ p => wpAny_mono p (fun it s₂ q => by
    obtain ⟨st, I, fp, Sx, e, W, h0, h1⟩ := q
    have W' := W.itr A r.handled
    exact ⟨st, I, fp, fp, _, _, e, W'.any, h0, fun a ha => ⟨(W'.node 0 s₂ a h0 ha).2, fresh_not_wr i (h1 a ha)⟩, fun a ha => ⟨h1 a ha, ha⟩, fun g hg => hg.elim⟩) fun _ _ x => x) fun _ _ x => x
theorem Gs.fin {t : Sem Fin} (ht : t = leafOf (.ok (.ret .none))) : Gs G A okc g env c [] FR Res σ t [] := fun s₁ F₁ F s r => by
  subst ht
  exact .fin _ ⟨r.mv, r.gin, rfl, rfl⟩
/-- a sleeping frame that knows plain values alone wakes as it was -/
theorem Inv.wake {base : Heap} {ok ok' : Addr → Prop} {W : Addr → Prop} {h h' : Heap} (i : Inv base ok env σ h) (hp : Plain σ = true) (x : ExtBut base W h h') (hf : ∀ a, FrW env a → ¬ W a) (fr : FreshOk ok' h') : Inv base ok' env σ h' := by
  have hno := Plain.owned hp
  have hh : ∀ y v, Holds env h y v → Holds env h' y v := fun y v q => by
    rcases q with ⟨k, mm, hns, rr⟩ | ⟨k, cc, hcc, rr⟩
    · obtain ⟨o, es, ep, e, d, rr'⟩ := hns
      obtain ⟨o', e', _, d', _⟩ := x _ o (hf _ (.inl rfl)) e
      exact .inl ⟨k, mm, ⟨o', es, ep, e', d'.trans d, rr'⟩, rr⟩
    · obtain ⟨o, e, d⟩ := rr
      obtain ⟨o', e', _, d', _⟩ := x _ o (hf _ (.inr ⟨y, hcc⟩)) e
      exact .inr ⟨k, cc, hcc, o', e', d'.trans d⟩
  refine ⟨⟨i.frame.kind, ?_, fun y cc q => ?_, i.frame.apart, i.frame.away, i.frame.glob, i.frame.blt⟩, i.off, fr, fun y dd l => ?_, fun y a es l => absurd l (Plain.noOwn hp), fun a w => ?_, i.once⟩
  · obtain ⟨mm, o, es, ep, e, d, rr⟩ := i.frame.ns
    obtain ⟨o', e', _, d', _⟩ := x _ o (hf _ (.inl rfl)) e
    exact ⟨mm, o', es, ep, e', d'.trans d, rr⟩
  · obtain ⟨v, o, e, d⟩ := i.frame.cells y cc q
    obtain ⟨o', e', _, d', _⟩ := x _ o (hf _ (.inr ⟨y, q⟩)) e
    exact ⟨v, o', e', d'.trans d⟩
  · obtain ⟨u, p, rr⟩ := i.vals y dd l
    exact ⟨u, hh y u p, rr.atomic (Plain.get hp l)⟩
  · rw [hno] at w; cases w
theorem room_gen {body : List Stmt} {env' : Env} (r : Room (n + 1) A) : Room n (A.in1.over (.func body env') []) := by
  refine ⟨?_, ?_, ?_⟩
  · exact r.handled
  · have := r.depth
    show A.depth + 0 + 1 + n < _
    omega
  · have := r.units
    show A.units + 1 + 0 + 3 + 30 * n + 500 < _
    omega
/-- the head of a for over a call of a generator of one plain parameter -/
theorem EvID.gen1 {d : DefRec} {a : Addr} {d1 : D} {x : Str} {e target : Expr} {p pos : Pos} (F : FnAt G d a) (hkn : env.kindOf d.name = some .globalImplicit) (h : Ev G (n + 1) env σ e d1) (hat : Atomic d1 = true)
    (body : ∀ env' A' okc g KF HF, FEnv env' d.scope → Room n (A'.over (.func d.body env') []) → KF .next = leafOf (.ok (.ret .none)) →
      Gs G A' okc g env' (.func d.body env') [] (fun _ => False) (fun _ => True) [(x, .val d1)] ((execs d.body env').wrap KF HF id id) ds)
    (hx : d.params.args.map (·.arg) = [x] := by rfl) (hb : ∀ pm code doc v, bindArgs (docDef d.name d.params d.body d.scope pm code doc) ⟨[v], []⟩ = pure [(x, v)] := by intros; rfl)
    (hloc : d.scope.names.lookup x = some .local := by rfl) (hcell : ∀ y ∈ d.scope.names, y.2 ≠ .cell := by decide)
    (hco : d.scope.isCoroutine = false := by rfl) (hgen : d.scope.isGenerator = true := by rfl) (hk : d.scope.kind = .function := by rfl) (hdn : (d.name == ("__debug__" : Str)) = false := by decide)
    (hns : noStar [e] = true := by rfl) (hplain : (backTo pos (starEach [e] env)).any (·.1) = false := by rfl) (he : starEach [e] env = (false, eval e env) :: starEach [] env := by rfl) :
    EvID G (n + 1) env σ (.Call (.Name d.name p) [e] [] pos) target ds := fun ok A s E r kb i => by
  refine Call_ (wpAny_mono ((fn_ev F hkn hdn : Ev G (n + 1) env σ (.Name d.name p) (.raw (.ref a))) ok A s E r kb i) (fun v s₁ p₁ => ?_) fun _ _ x => x)
  obtain ⟨st, rp⟩ := p₁
  cases rp
  have kb₁ := st.ext.base kb
  refine callWith_callee (G := G) F.callee hplain (wpAny_mono ((EvL.cons h .nil he : EvL G (n + 1) env σ [e] [d1]) ok A s₁ E pos r kb₁ (i.ext st.ext)) (fun vs s₂ p₂ => ⟨p₂.1.ext.base kb₁, ?_⟩) fun _ _ x => x) hns
  obtain ⟨st₂, rs⟩ := p₂
  have st12 := st.trans st₂
  have kb₂ := st₂.ext.base kb₁
  cases rs with
  | @cons v _ _ _ ra rs =>
    cases rs
    obtain ⟨o, pm, code, doc, ho, hd, hcd⟩ := F.obj
    refine wpAny_call (codeAny_call_generator (fd := docDef d.name d.params d.body d.scope pm code doc) (body := d.body) (by have := r.depth; omega) (kb₂ _ _ ho) hd hco hgen rfl (hcd.keeps kb₂) ?_)
    refine wpAny_of_eq (hb pm code doc v) ?_
    refine wpAny_newFunctionEnv hcell (fun y hy => by rw [List.mem_singleton.mp hy]; exact hloc) (fun h' hns' hsb => ?_) hk
    dsimp only at hns' hsb ⊢
    generalize henv : newEnv _ _ _ _ _ _ _ _ _ = env'
    have hsc : env'.scope = d.scope := by rw [← henv]; rfl
    have hcs : env'.cells = [] := by rw [← henv]; rfl
    have hlo : env'.locals = s₂.heap.objs.size := by rw [← henv]; rfl
    have FE : FEnv env' d.scope := ⟨hsc, fun y hy => absurd (mem_of_lookup hy) fun q => hcell _ q rfl⟩
    have keep : ∀ b o, s₂.heap.get? b = some o → h'.get? b = some o := fun b o e => hsb.extBut b o (Nat.ne_of_lt (Heap.lt_size e)) (Heap.get?_push_of_some _ e)
    refine ⟨G.nolimit.keeps fun b o e => keep b o (kb₂ b o e), ?_⟩
    generalize hI : h'.objs.size = I
    have hsz : I = s₂.heap.objs.size + 1 := by rw [← hI, hsb.1, Heap.size_push]
    generalize hs3 : ({ heap := _, gens := _, drawn := _, toks := _, os := _ } : Shared) = s₃
    have hgens : s₃.gens = s₂.gens.push (.fresh (.func d.body env')) := by rw [← hs3]
    have hheap : ∃ o, s₃.heap = h'.push o ∧ o.cls = .type "generator" ∧ (∃ nm qn, o.data = .fields #[.int s₂.gens.size 0, nm, qn]) ∧ o.slots = #[] := by rw [← hs3]; exact ⟨_, rfl, rfl, ⟨_, _, rfl⟩, rfl⟩
    have hos : s₃.os = s₂.os := by rw [← hs3]
    clear hs3
    obtain ⟨og, hheap, hgc, ⟨nm, qn, hgd⟩, hgs⟩ := hheap
    have hgen' : s₃.heap.IsGen I s₂.gens.size := ⟨og, nm, qn, by rw [hheap, ← hI]; exact Heap.get?_push_size _ (by rw [Obj.isFreed_of_fields hgd]), hgc, hgd, hgs⟩
    have keep₃ : ∀ b o, s₂.heap.get? b = some o → s₃.heap.get? b = some o := fun b o e => by rw [hheap]; exact Heap.get?_push_of_some _ (keep b o e)
    have st₃ : Stp G.base s₂ s₃ := ⟨.of_stays keep₃, hos, ⟨fun j x e => by
      have hlt := (Array.getElem?_eq_some_iff.mp e).1
      rw [hgens, Array.getElem?_push, if_neg (Nat.ne_of_lt hlt)]
      exact e, fun q x hx => by
      rw [hgens] at hx
      rcases Array.mem_push.mp hx with hx | rfl
      · exact q x hx
      · rfl⟩⟩
    have hL₂ : ∀ b, s₂.heap.objs.size ≤ b → s.heap.get? b = none := fun b hb => by
      cases q : s₂.heap.get? b with
      | none => exact st12.ext.none q
      | some o => exact absurd (Heap.lt_size q) (Nat.not_lt.mpr hb)
    have hfrw : ∀ b, FrW env' b → b = s₂.heap.objs.size := fun b w => by
      rcases w with w | ⟨y, w⟩
      · exact w.trans hlo
      · rw [hcs] at w; cases w
    have hns₃ : s₃.heap.Ns s₂.heap.objs.size (fun y => [(x, v)].reverse.lookup y) := hns'.keeps fun b o e => by rw [hheap]; exact Heap.get?_push_of_some _ e
    have inv₃ : Inv G.base (fun _ => True) env' [(x, .val d1)] s₃.heap := by
      refine ⟨⟨(by rw [hsc]; exact hk), ⟨_, (by rw [hlo]; exact hns₃)⟩, fun y c l => (by rw [hcs] at l; cases l), (by rw [hcs]; exact List.Pairwise.nil), fun y c l => (by rw [hcs] at l; cases l), (by rw [← henv]; rfl), (by rw [← henv]; rfl)⟩, fun b w => ?_, fun _ _ => trivial, fun y dd l => ?_, fun y b es l => ?_, fun b w => (nomatch w), List.nodup_nil⟩
      · have := hfrw b (w.elim id fun z => nomatch z)
        cases q : G.base.get? b with
        | none => rfl
        | some o => exact absurd (Heap.lt_size (kb₂ b o q)) (by rw [this]; exact Nat.lt_irrefl _)
      · rw [List.lookup_cons] at l
        cases q : y == x with
        | false => rw [q] at l; cases l
        | true =>
          rw [q] at l; cases l
          have q := beq_iff_eq.mp q
          subst q
          exact ⟨v, .inl ⟨FE.kind hloc, _, by rw [hlo]; exact hns₃, by simp⟩, ra.atomic hat⟩
      · rw [List.lookup_cons] at l
        cases q : y == x with
        | false => rw [q] at l; cases l
        | true => rw [q] at l; cases l
    have hIL : ¬ FrW env' I := fun w => by have h1 := hfrw I w; rw [hsz] at h1; exact Nat.succ_ne_self _ h1
    refine wpAny_pyIter_gen hgen' ⟨st12.trans st₃, I, _, _, _, rfl, ItrD.gen (C := FrW env') (g := s₂.gens.size) r.handled (by have := r.depth; omega), ⟨FrW env', rfl, fun _ w => w, hIL, hgen', fun b w => ?_, .fresh (.func d.body env'), ?_, ?_⟩, fun b hb' => ?_, fun g' hg' => ?_⟩
    · rw [hfrw b w]
      refine ⟨ns_not_node hns₃, ?_⟩
      obtain ⟨o, _, _, e, _⟩ := hns₃; rw [e]; rfl
    · rw [hgens]; simp
    · refine genGo_iff.mpr fun s₄ hc hb₄ hg₄ => ?_
      obtain ⟨V, hx4, hdom4, hF4, hok4⟩ := hc
      show Sg G.M A.in1 _ _ (.point [] fun _ => ((execs d.body env').onRaise (leaving env')) >>= _) [] _
      refine .mark ?_
      rw [Sem.onRaise_eq_wrap, Sem.bind_eq_wrap', Sem.wrap_wrap]
      have hp : Plain [(x, .val d1)] = true := by show (Atomic d1 && true) = true; rw [hat]; rfl
      refine body env' A.in1 _ s₂.gens.size _ _ FE (room_gen r) rfl s₄ (FrW env') (FrW env') _ ⟨hb₄, hb₄, inv₃.wake hp hx4 hF4 fun b e => .inr (.inl e), ⟨fun b o _ e => ⟨o, e, rfl, rfl, fun _ => rfl⟩, fun _ _ e => e, rfl, fun _ _ _ e => e, fun z => z⟩, fun _ w => w, fun _ w => .inl w, fun _ w => w, fun b w => inv₃.off b (.inl w), fun b w => ⟨fun nd => ?_, ?_⟩, nofun, trivial, rfl, ?_⟩
      · rw [hfrw b w] at nd
        exact ns_not_node hns₃ (node_back hx4 (hF4 _ (.inl hlo.symm)) (by obtain ⟨o, _, _, e, _⟩ := hns₃; rw [e]; rfl) nd)
      · cases q : s₄.heap.get? b with
        | some _ => exact (by show (s₄.heap.get? b).isSome = true; rw [q]; rfl)
        | none =>
          have := hdom4 b q
          rw [hfrw b w] at this
          obtain ⟨o, _, _, e, _⟩ := hns₃; rw [e] at this; cases this
      · rw [setGen_get hg₄]; rfl
    · rcases hb' with w | rfl
      · rw [hfrw b w]; exact hL₂ _ (Nat.le_refl _)
      · exact hL₂ _ (by omega)
    · subst hg'
      cases q : s.gens[s₂.gens.size]? with
      | none => rfl
      | some y =>
        have := st12.gens.keep _ _ q
        exact absurd (Array.getElem?_eq_some_iff.mp this).1 (Nat.lt_irrefl _)
end
end Mine
end
section
open PySem PySem.W PyProof.Rows PySem.Calls
set_option maxRecDepth 100000
namespace Mine
section
variable {G : Gr} {n : Nat} {env : Env} {σ : St} {sc : Scope}
theorem load_holds {M : Model} {A : Around} {E : Value → Shared → Prop} {s : Shared} {x : Str} {v : Value} {Q : Value → Shared → Prop} (hk : env.scope.kind = .function) (q : Holds env s.heap x v) (h : Q v s) (hc : (x == ("__classdict__" : Str)) = false) : wpAny M A (loadName env x) Q E s := by
  rcases q with ⟨k, m, hn, hv⟩ | ⟨k | k, c, hl, hv⟩
  · exact wpAny_loadName_local hk k hn hv h
  · exact wpAny_loadName_cell hk k hl hv h
  · exact wpAny_loadName_free hk k hl hv h hc
/-- x += e, x -= e -/
theorem Ex1.aug {x : Str} {op : Operator} {e : Expr} {p pos : Pos} {i j k : Int} (hl : σ.lookup x = some (.val (.int i))) (h : Ev G n env σ e (.int j)) (hx : Storable env x) (ho : (op = .Add ∧ k = i + j) ∨ (op = .Sub ∧ k = i - j)) (hc : (x == ("__classdict__" : Str)) = false := by decide) :
    Ex1 G n env σ (.AugAssign (.Name x p) op e pos) fun fl σ' => fl = .next ∧ σ' = setS x (.val (.int k)) σ := fun ok A s E r kb iv => by
  obtain ⟨v, hv, rv⟩ := iv.vals x _ hl
  cases rv
  refine wpAny_AugAssign_Name (load_holds iv.frame.kind hv (wpAny_mono (h ok A s E r kb iv) (fun w s₁ p₁ => ?_) fun _ _ x => x) hc)
  obtain ⟨st, rw'⟩ := p₁
  cases rw'
  have i₁ := iv.ext st.ext
  have fin : ∀ s₂, Stp G.base s₁ s₂ → ∀ t, wpAny G.M A (storeName env x (.int k t)) (fun _ => After G env σ ok s (fun fl σ' => fl = .next ∧ σ' = setS x (.val (.int k)) σ) .next) E s₂ := fun s₂ st₂ t => by
    have st' := st.trans st₂
    have i₂ := iv.ext st'.ext
    refine wpAny_store (base := G.base) i₂.frame hx fun s₃ hv ho F m => ?_
    have m' : Mv G.base (Wr env σ) s s₃ := (st'.mv (W := Wr env σ)).trans (m.weak fun _ w => Or.inl w) fun _ w => .inl w
    exact ⟨.next, _, ⟨rfl, rfl⟩, trivial, i₂.set_val m F hv ho (.int _ _), m', m'.base kb iv.off, fun a w => .inl (owned_setS_val w)⟩
  rcases ho with ⟨rfl, rfl⟩ | ⟨rfl, rfl⟩
  · exact AutoIntOps.iadd_0 (fin _ .tok _)
  · exact AutoIntOps.isub_0 (fin _ .tok _)
theorem CmpD.in_str {x y : Str} : CmpD G n .In (.str y) (.str x) (Txt.contains x y) := fun ok A s E va vb r k f ra rb => by
  cases ra; cases rb; exact SB.contains ⟨.refl, rfl⟩
theorem CmpD.notIn_str {x y : Str} : CmpD G n .NotIn (.str y) (.str x) (!Txt.contains x y) := fun ok A s E va vb r k f ra rb => by
  cases ra; cases rb; exact SB.notContains ⟨.refl, rfl⟩
theorem CmpD.none_is : CmpD G n .Is .none .none true := fun ok A s E va vb r k f ra rb => by
  cases ra; cases rb; exact wpAny_is_self rfl ⟨.refl, rfl⟩
theorem CmpD.int_is {i : Int} : CmpD G n .Is (.int i) .none false := fun ok A s E va vb r k f ra rb => by
  cases ra; cases rb; exact is_int_none ⟨.refl, rfl⟩
theorem strs_of {ok : Addr → Prop} {h : Heap} : ∀ {vs : List Value} {ts : List Str}, RepAll ok h vs (ts.map .str) → ∃ l : List (Str × Tok), strValues l = vs ∧ l.map (·.1) = ts
  | _, [], r => by cases r; exact ⟨[], rfl, rfl⟩
  | _, t :: ts, r => by
    cases r with | cons a r =>
    cases a with | str _ u =>
    obtain ⟨l, h1, h2⟩ := strs_of r
    exact ⟨(t, u) :: l, by rw [← h1]; rfl, by rw [← h2]; rfl⟩
theorem CallD.join {x : Str} {ts : List Str} (hok : JoinOk x ts = true) : CallD G n (.builtin "str.join") [.str x, .list (ts.map .str)] (.str (Txt.join x ts)) := fun ok A s E vs r k f rs => by
  cases rs with
  | cons a rs => cases rs with
    | cons b rs =>
      cases rs; cases a
      cases b with
      | list o l ra =>
        obtain ⟨l', rfl, h2⟩ := strs_of ra
        exact SC.join l h2 hok fun t' k => ⟨.tok, .str _ _⟩
theorem MethD.join {x : Str} : MethD G n (.str x) "join" (.builtin "str.join") := fun ok A s E v pl r k f rp => by
  cases rp; exact GM.join ⟨.refl, rfl⟩
theorem Ev.methB {o : Expr} {name : Str} {apos pos : Pos} {es : List Expr} {f : Value} {dv : D} {ds : List D} {d : D} (ho : EvB G n env σ o dv) (hm : MethD G n dv name f) (c : Callee G f) (ha : EvLB G n env σ es ds) (hc : CallD G n f (dv :: ds) d) (hat : Atomic d = true)
    (hns : noStar es = true := by rfl) (hplain : (backTo pos (starEach es env)).any (·.1) = false := by rfl)
    {pl : Sem Bool} (he : eval (.Call (.Attribute o name apos) es [] pos) env = (do
      let ov ← eval o env
      standAt apos.atName
      let (f, first) ← holding [ov] (getMethod ov name pl)
      callWith pos f first (backTo pos (starEach es env)) []) := by rfl) : Ev G n env σ (.Call (.Attribute o name apos) es [] pos) d := fun ok A s E r k i =>
  MethodCall_ (pl := pl) (wpAny_mono (ho ok A s E r k i) (fun v s₁ p₁ => wpAny_mono (hm _ A s₁ E v _ r (p₁.1.ext.base k) (i.ext p₁.1.ext).fresh p₁.2) (fun fx s₂ p₂ => by
    obtain ⟨st₂, rfl⟩ := p₂
    have st := p₁.1.trans st₂
    refine callWith_callee c hplain (wpAny_mono (ha ok A s₂ E pos r (st.ext.base k) (i.ext st.ext)) (fun vs s₃ p₃ => ⟨p₃.1.ext.base (st.ext.base k), ?_⟩) fun _ _ x => x) hns
    have st' := st.trans p₃.1
    exact wpAny_mono (hc _ A s₃ E (v :: vs) r (st'.ext.base k) (i.ext st'.ext).fresh (.cons ((p₁.2.stp st₂).stp p₃.1) p₃.2)) (fun _ _ p₄ => ⟨st'.trans p₄.1, p₄.2.atomic hat⟩) fun _ _ x => x) fun _ _ x => x) fun _ _ x => x) he
theorem join_none : ∀ (ls : List (List Nat)), Txt.join (S []) (ls.map S) = S ls.flatten := by
  intro ls
  unfold Txt.join
  rw [StrLaws.glued_eq_join]
  induction ls with
  | nil => rfl
  | cons l r ih =>
    cases r with
    | nil => show S l = _; simp
    | cons m t =>
      show S l ++ S [] ++ Str.join (S []) ((m :: t).map S) = _
      rw [ih]
      show (⟨(l.toArray ++ #[]) ++ (m :: t).flatten.toArray⟩ : Str) = _
      simp
theorem joinOk_none {ls : List (List Nat)} (h : ls.flatten.length ≤ sizeLine) : JoinOk (S []) (ls.map S) = true := by
  unfold JoinOk
  rw [StrLaws.joinTotal]
  have e : ((ls.map S).map (·.length)).sum = ls.flatten.length := by
    clear h
    induction ls with
    | nil => rfl
    | cons l r ih => rw [List.map_cons, List.map_cons, List.sum_cons, ih, List.flatten_cons, List.length_append, S_length]
  rw [e]
  show (!decide (ls.flatten.length + (ls.map S).length * 0 > sizeLine)) = true
  rw [Nat.mul_zero, Nat.add_zero]
  rw [Bool.not_eq_true', decide_eq_false_iff_not]; omega
end
end Mine
end
section
open PySem PySem.W PyProof.Rows PySem.Calls
set_option maxRecDepth 100000
namespace Mine
/-- signs with their places, a backslash and the sign behind it as one -/
def toks : Nat → Bool → List Nat → List (Nat × List Nat)
  | i, false, [] => []
  | i, true, [] => [(i - 1, [92])]
  | i, true, c :: r => (i, [92, c]) :: toks (i + 1) false r
  | i, false, c :: r => if c = 92 then toks (i + 1) true r else (i, [c]) :: toks (i + 1) false r
def tokD (t : Nat × List Nat) : D := .tuple [.int (t.1 : Nat), .str (S t.2)]
theorem toks_length : ∀ (l : List Nat) (i : Nat) (b : Bool), (toks i b l).length ≤ l.length + 1
  | [], i, false => by simp [toks]
  | [], i, true => by simp [toks]
  | c :: r, i, true => by have := toks_length r (i + 1) false; simp [toks]; omega
  | c :: r, i, false => by
    unfold toks
    split
    · have := toks_length r (i + 1) true; simp; omega
    · have := toks_length r (i + 1) false; simp; omega
abbrev SS := Nat × Option Nat × List (List Nat)
def stripStep (l : List Nat) (st : SS) (t : Nat × List Nat) : SS :=
  if t.2 = [34] then match st.2.1 with
    | none => (st.1, some t.1, st.2.2)
    | some o => (t.1 + 1, none, if st.1 ≠ o then st.2.2 ++ [(l.drop st.1).take (o - st.1)] else st.2.2)
  else st
def stripAt (l : List Nat) (ts : List (Nat × List Nat)) : SS := ts.foldl (stripStep l) (0, none, [])
def stripEnd (l : List Nat) (st : SS) : List (List Nat) := if st.1 < l.length then st.2.2 ++ [l.drop st.1] else st.2.2
def strip (l : List Nat) : List Nat := if 34 ∈ l then (stripEnd l (stripAt l (toks 0 false l))).flatten else l
theorem stripAt_snoc (l : List Nat) (ts : List (Nat × List Nat)) (t : Nat × List Nat) : stripAt l (ts ++ [t]) = stripStep l (stripAt l ts) t := by simp [stripAt]
theorem stripAt_rows (l : List Nat) : ∀ (ts : List (Nat × List Nat)), (stripAt l ts).2.2.length ≤ ts.length ∧ ∀ p ∈ (stripAt l ts).2.2, p.length ≤ l.length := by
  intro ts
  have go : ∀ (ts : List (Nat × List Nat)) (st : SS), (∀ p ∈ st.2.2, p.length ≤ l.length) → (ts.foldl (stripStep l) st).2.2.length ≤ st.2.2.length + ts.length ∧ ∀ p ∈ (ts.foldl (stripStep l) st).2.2, p.length ≤ l.length := by
    intro ts
    induction ts with
    | nil => intro st h; exact ⟨Nat.le_refl _, h⟩
    | cons t r ih =>
      intro st h
      have h1 : (stripStep l st t).2.2.length ≤ st.2.2.length + 1 ∧ ∀ p ∈ (stripStep l st t).2.2, p.length ≤ l.length := by
        unfold stripStep
        split
        · split
          · exact ⟨Nat.le_succ _, h⟩
          · split
            · refine ⟨by simp, fun p hp => ?_⟩
              rcases List.mem_append.mp hp with hp | hp
              · exact h p hp
              · rw [List.mem_singleton.mp hp]; simp; omega
            · exact ⟨Nat.le_succ _, h⟩
        · exact ⟨Nat.le_succ _, h⟩
      have := ih _ h1.2
      refine ⟨?_, this.2⟩
      have := this.1
      simp only [List.foldl_cons, List.length_cons] at this ⊢
      omega
  have := go ts (0, none, []) nofun
  exact ⟨by have h := this.1; simp only [List.length_nil, Nat.zero_add] at h; exact h, this.2⟩
theorem flatten_le {ls : List (List Nat)} {m : Nat} (h : ∀ p ∈ ls, p.length ≤ m) : ls.flatten.length ≤ ls.length * m := by
  induction ls with
  | nil => simp
  | cons a r ih =>
    have := ih fun p hp => h p (.tail _ hp)
    have := h a (.head _)
    rw [List.flatten_cons, List.length_append, List.length_cons, Nat.succ_mul]; omega
theorem stripEnd_rows (l : List Nat) : (stripEnd l (stripAt l (toks 0 false l))).length ≤ l.length + 2 ∧ ∀ p ∈ stripEnd l (stripAt l (toks 0 false l)), p.length ≤ l.length := by
  have h := stripAt_rows l (toks 0 false l)
  have h2 := toks_length l 0 false
  unfold stripEnd
  split
  · refine ⟨by simp; omega, fun p hp => ?_⟩
    rcases List.mem_append.mp hp with hp | hp
    · exact h.2 p hp
    · rw [List.mem_singleton.mp hp]; simp
  · exact ⟨by omega, h.2⟩
/-- the count of open brackets, none once it fell below -/
def openStep (st : Option Int) (t : Nat × List Nat) : Option Int := match st with
  | none => none
  | some k => if t.2 = [40] then some (k + 1) else if t.2 = [41] then (if k - 1 < 0 then none else some (k - 1)) else some k
def openAt (ts : List (Nat × List Nat)) : Option Int := ts.foldl openStep (some 0)
def sound (l : List Nat) : Bool := openAt (toks 0 false l) == some 0
def check (l : List Nat) : Bool := sound (strip l)
def bad : List Nat := [40, 39, 39, 44, 32, 39, 39, 41]
def pre (l : List Nat) : List Nat := if check l then l else bad
theorem openAt_snoc (ts : List (Nat × List Nat)) (t : Nat × List Nat) : openAt (ts ++ [t]) = openStep (openAt ts) t := by simp [openAt]
theorem openAt_none (ts : List (Nat × List Nat)) : ts.foldl openStep none = none := by
  induction ts with
  | nil => rfl
  | cons t r ih => simpa [openStep] using ih
/-- two names take a pair -/
def pairS (x y : Str) : D → St → St
  | .tuple [a, b], σ => setS y (.val b) (setS x (.val a) σ)
  | _, σ => σ
theorem S_inj {l m : List Nat} : S l = S m ↔ l = m := by
  constructor
  · intro h
    have := congrArg (fun x : Str => x.cps.toList) h
    simpa using this
  · intro h; rw [h]
theorem S_app (l m : List Nat) : S l ++ S m = S (l ++ m) := by
  show (⟨l.toArray ++ m.toArray⟩ : Str) = _
  simp
theorem signs_S (l : List Nat) : signs (S l) = l.map fun c => .str (S [c]) := by simp [signs]
theorem sz {k : Nat} (h : k ≤ 16000000) : k ≤ sizeLine := Nat.le_trans h (by decide)
section
variable {G : Gr} {n : Nat} {env : Env} {σ : St} {A : Around} {okc : Addr → Prop} {g : Nat} {c : Code} {fs : List PySem.Frame} {FR : Addr → Prop} {Res : Heap → Prop} {ds : List D}
theorem AssD.pair {x y : Str} {p q tp : Pos} {k : Nat} {a b : D} (hx : Storable env x) (hy : Storable env y) : AssD G n env (.Tuple [.Name x p, .Name y q] k tp) (.tuple [a, b]) (pairS x y (.tuple [a, b])) :=
  AssD.tuple (f := pairS x y (.tuple [a, b])) (AssL.cons (f := setS x (.val a)) (g := fun σ => setS y (.val b) σ) (.name hx) (AssL.cons (f := setS y (.val b)) (g := id) (.name hy) .nil)) rfl
theorem EvB.castB {e : Expr} {d d' : D} (h : EvB G n env σ e d) (q : d = d') : EvB G n env σ e d' := q ▸ h
theorem Gs.of {σ₀ : St} {t : Sem Fin} (h : Gs G A okc g env c fs FR Res σ₀ t ds) (hs : Sub σ₀ σ) : Gs G A okc g env c fs FR Res σ t ds := Gs.only hs h
end
end Mine
end
section
open PySem PySem.W PyProof.Rows PySem.Calls
set_option maxRecDepth 100000
namespace Mine
section
variable {G : Gr} {n : Nat} {env : Env} {σ : St} {sc : Scope}
theorem IdxD.str {l : List Nat} {i : Int} {c : Nat} (h0 : 0 ≤ i) (h1 : i < 2 ^ 62) (h : l[i.toNat]? = some c) : IdxD G n (.str (S l)) (.int i) (.str (S [c])) := fun ok A s E vo vi r k f ro ri => by
  cases ro; cases ri
  have hc : Txt.charAt (S l) i = some c := by
    unfold Txt.charAt
    have hlt := (List.getElem?_eq_some_iff.mp h).1
    have : seqIndex? i (S l).length = some i.toNat := by
      rw [S_length]
      unfold seqIndex?
      simp only [show ¬ i < 0 by omega, if_false]
      rw [if_pos (by simp only [Bool.and_eq_true, decide_eq_true_eq]; omega)]
    rw [this]
    simpa using h
  refine SB.getItem (by simp [fitsSsize]; omega) (by rw [hc]; rfl) ⟨.tok, ?_⟩
  have : Txt.item (S l) i = S [c] := by unfold Txt.item; rw [hc]; rfl
  rw [this]; exact .str _ _
/-- list(x): a new one -/
theorem EvF.listOf {e : Expr} {p pos : Pos} {d : D} {ds : List D} (hk : env.kindOf "list" = some .globalImplicit) (hg : G.mg "list" = none) (h : Ev G n env σ e d) (hd : d = .list ds ∨ d = .tuple ds) (hz : ds.length ≤ sizeLine)
    (hns : noStar [e] = true := by rfl) (hplain : (backTo pos (starEach [e] env)).any (·.1) = false := by rfl) (he : starEach [e] env = (false, eval e env) :: starEach [] env := by rfl) :
    EvF G n env σ (.Call (.Name "list" p) [e] [] pos) ds := fun ok A s E r kb i => by
  have hb : Ev G n env σ (.Name "list" p) (.raw (.type "list")) := Ev.builtin hk hg (by rfl)
  refine Call_ (wpAny_mono (hb ok A s E r kb i) (fun v s₁ p₁ => ?_) fun _ _ x => x)
  obtain ⟨st, rp⟩ := p₁
  cases rp
  have kb₁ := st.ext.base kb
  refine callWith_callee (G := G) (.type _) hplain (wpAny_mono ((EvL.cons h .nil he : EvL G n env σ [e] [d]) ok A s₁ E pos r kb₁ (i.ext st.ext)) (fun vs s₂ p₂ => ⟨p₂.1.ext.base kb₁, ?_⟩) fun _ _ x => x) hns
  obtain ⟨st₂, rs⟩ := p₂
  have st12 := st.trans st₂
  cases rs with
  | cons ra rs =>
    cases rs
    have go : ∀ {a : Addr} {o : Obj} {T : String} {ws : List Value} {m : Nat}, (T = "list" ∨ T = "tuple") → s₂.heap.get? a = some o → o.cls = .type T → o.data = .seq ws.toArray m → RepAll (okO ok σ) s₂.heap ws ds →
        wpAny G.M A (call (.type "list") [.ref a]) (fun v s' => Stp G.base s s' ∧ ∃ a vs, v = .ref a ∧ s.heap.get? a = none ∧ OwnL s'.heap a vs ∧ RepAll (fun b => okO ok σ b ∧ b ≠ a) s'.heap vs ds) E s₂ := fun hT ho hc hdt ra => by
      refine call_list_seq (hsz := by rw [List.size_toArray, ra.length]; exact hz) _ hT ho hc hdt fun h' c' hkp hD => ?_
      have st₃ : Stp G.base s₂ { s₂ with heap := h' } := ⟨.of_stays hkp, rfl, .refl⟩
      refine ⟨st12.trans st₃, s₂.heap.objs.size, _, rfl, st12.ext.none fresh_get, ⟨c', hD⟩, ra.ext st₃.ext fun b q z => ⟨q, fun e => ?_⟩⟩
      rw [e, fresh_get] at z; cases z
    rcases hd with rfl | rfl
    · cases ra with
      | list o l ra => obtain ⟨ob, ho, hc, m, hdt⟩ := l; exact go (.inl rfl) ho hc hdt ra
    · cases ra with
      | tuple o l ra => obtain ⟨ob, ho, hc, m, hdt⟩ := l; exact go (.inr rfl) ho hc hdt ra
end
end Mine
end
section
open PySem PySem.W PyProof.Rows PySem.Calls
set_option maxRecDepth 100000
namespace Mine
section
variable {G : Gr} {n : Nat} {env : Env} {σ : St} {sc : Scope}
theorem RepAll.atomics {ok ok' : Addr → Prop} {h h' : Heap} : ∀ {vs : List Value} {ds : List D}, RepAll ok h vs ds → (∀ d ∈ ds, Atomic d = true) → RepAll ok' h' vs ds
  | _, _, .nil, _ => .nil
  | _, _, .cons a r, k => .cons (a.atomic (k _ (.head _))) (RepAll.atomics r fun d m => k d (.tail _ m))
end
end Mine
end
section
open PySem PySem.W PyProof.Rows PySem.Calls
set_option maxRecDepth 100000
namespace Mine
section
variable {G : Gr} {n : Nat} {env : Env} {σ : St} {sc : Scope}
theorem FEnv.swaps {env : Env} {sc : Scope} {e : Expr} {t : Option Expr} {l : Nat} {b : Bool} (FE : FEnv env sc) (h : ∀ env' : Env, swapsWith e t l { env' with scope := sc } = pure b) : swapsWith e t l env = pure b := by
  have : env = { env with scope := sc } := by rw [← FE.scope]
  rw [this]; exact h env
theorem Sub.set {x : Str} {s : Slot} : ∀ {σ₀ σ₁ : St}, Sub σ₀ σ₁ → x ∉ σ₀.map (·.1) → Sub σ₀ (setS x s σ₁)
  | [], _, _, _ => trivial
  | (y, t) :: r, σ₁, h, k => by
    rw [List.map_cons, List.mem_cons, not_or] at k
    exact ⟨by rw [lookup_setS_ne (Ne.symm k.1)]; exact h.1, Sub.set h.2 k.2⟩
theorem contains_one (hay : List Nat) (c : Nat) : Txt.contains (S hay) (S [c]) = decide (c ∈ hay) := by
  unfold Txt.contains
  rw [S_length, occ_one]
  have go : ∀ (l : List Nat) (a : Nat), (pos c 1 a l).isEmpty = decide (c ∉ l) := by
    intro l
    induction l with
    | nil => intro a; rfl
    | cons d r ih =>
      intro a
      rw [pos]
      by_cases h : d = c
      · simp [h]
      · rw [if_neg h, ih]; simp [Ne.symm h]
  rw [go]; simp
def nums (js : List Nat) : List D := js.map fun j => .int (j : Nat)
end
end Mine
end
section
open PySem PySem.W PyProof.Rows PySem.Calls
set_option maxRecDepth 100000
namespace Mine
/-- does a text end behind a backslash -/
def ends : Bool → List Nat → Bool
  | b, [] => b
  | true, _ :: r => ends false r
  | false, c :: r => if c = 92 then ends true r else ends false r
theorem toks_append : ∀ (p : List Nat) (i : Nat) (b : Bool) (r : List Nat), ends b p = false → toks i b (p ++ r) = toks i b p ++ toks (i + p.length) false r
  | [], i, true, r, h => by cases h
  | [], i, false, r, h => by simp [toks]
  | c :: p, i, true, r, h => by
    have := toks_append p (i + 1) false r h
    show toks i true (c :: (p ++ r)) = _
    rw [toks, toks, this, List.cons_append, List.length_cons]
    congr 3; omega
  | c :: p, i, false, r, h => by
    show toks i false (c :: (p ++ r)) = _
    rw [toks, toks]
    unfold ends at h
    by_cases hc : c = 92
    · rw [if_pos hc] at h
      rw [if_pos hc, if_pos hc, toks_append p (i + 1) true r h, List.length_cons]
      congr 2; omega
    · rw [if_neg hc] at h
      rw [if_neg hc, if_neg hc, toks_append p (i + 1) false r h, List.cons_append, List.length_cons]
      congr 3; omega
/-- a stretch of a text: in quotation marks, or not -/
structure Un where
  q : Bool
  t : List Nat
/-- the tokens' words -/
def words (p : List Nat) : List (List Nat) := (toks 0 false p).map (·.2)
theorem toks_shift : ∀ (p : List Nat) (i j : Nat) (b : Bool), (toks i b p).map (·.2) = (toks j b p).map (·.2)
  | [], i, j, true => rfl
  | [], i, j, false => rfl
  | c :: p, i, j, true => by rw [toks, toks, List.map_cons, List.map_cons, toks_shift p (i + 1) (j + 1) false]
  | c :: p, i, j, false => by
    rw [toks, toks]
    split
    · exact toks_shift p (i + 1) (j + 1) true
    · rw [List.map_cons, List.map_cons, toks_shift p (i + 1) (j + 1) false]
structure Un.Ok (u : Un) : Prop where
  ends : ends false u.t = false
  ne : u.t ≠ []
  plain : u.q = false → [34] ∉ words u.t
  quote : u.q = true → ∃ m, u.t = 34 :: (m ++ [34]) ∧ Mine.ends false m = false ∧ [34] ∉ words m
theorem fold_no34 (l : List Nat) : ∀ (ts : List (Nat × List Nat)) (st : SS), [34] ∉ ts.map (·.2) → ts.foldl (stripStep l) st = st
  | [], st, _ => rfl
  | t :: r, st, h => by
    rw [List.map_cons, List.mem_cons, not_or] at h
    have : stripStep l st t = st := by unfold stripStep; rw [if_neg fun e => h.1 e.symm]
    rw [List.foldl_cons, this]; exact fold_no34 l r st h.2
theorem fold_unit (l : List Nat) {u : Un} (h : u.Ok) (i start : Nat) (rows : List (List Nat)) :
    (toks i false u.t).foldl (stripStep l) (start, none, rows) = if u.q then (i + u.t.length, none, if start ≠ i then rows ++ [(l.drop start).take (i - start)] else rows) else (start, none, rows) := by
  cases hq : u.q with
  | false =>
    refine fold_no34 l _ _ ?_
    rw [toks_shift u.t i 0]; exact h.plain hq
  | true =>
    obtain ⟨m, he, h1, h2⟩ := h.quote hq
    rw [he]
    have e1 : toks i false (34 :: (m ++ [34])) = (i, [34]) :: (toks (i + 1) false m ++ [(i + 1 + m.length, [34])]) := by
      rw [toks, if_neg (by decide), toks_append m (i + 1) false [34] h1]
      rfl
    rw [e1, List.foldl_cons, List.foldl_append]
    have e2 : stripStep l (start, none, rows) (i, [34]) = (start, some i, rows) := by simp [stripStep]
    have e3 : (toks (i + 1) false m).foldl (stripStep l) (start, some i, rows) = (start, some i, rows) := fold_no34 l _ _ (by rw [toks_shift m (i + 1) 0]; exact h2)
    rw [e2, e3, List.foldl_cons, List.foldl_nil, if_pos rfl]
    unfold stripStep
    rw [if_pos rfl]
    have e4 : i + 1 + m.length + 1 = i + (34 :: (m ++ [34])).length := by simp; omega
    show (i + 1 + m.length + 1, none, _) = _
    rw [e4]
def txt (us : List Un) : List Nat := (us.map (·.t)).flatten
def bareT (us : List Un) : List Nat := ((us.filter fun u => !u.q).map (·.t)).flatten
theorem ends_append : ∀ (p : List Nat) (b : Bool) (r : List Nat), ends b p = false → ends b (p ++ r) = ends false r
  | [], true, r, h => by cases h
  | [], false, r, h => rfl
  | c :: p, true, r, h => ends_append p false r h
  | c :: p, false, r, h => by
    show (if c = 92 then ends true (p ++ r) else ends false (p ++ r)) = _
    unfold ends at h
    by_cases hc : c = 92
    · rw [if_pos hc] at h ⊢; exact ends_append p true r h
    · rw [if_neg hc] at h ⊢; exact ends_append p false r h
end Mine
end
section
open PySem PySem.W PyProof.Rows PySem.Calls
set_option maxRecDepth 100000
namespace Mine
def stepB (st : Option Int) (t : List Nat) : Option Int := openStep st (0, t)
/-- what is seen of the brackets: a flag hides -/
def stepV (st : Option Int) (p : List Nat) (h : Bool) : Option Int := if h then st else stepB st p
def seen (P : List (List Nat)) (fl : List Bool) (i : Nat) : Option Int := (List.range i).foldl (fun st j => stepV st (P.getD j []) (fl.getD j false)) (some 0)
def marks (l : List Bool) (js : List Nat) : List Bool := js.foldl (fun l j => l.set j true) l
/-- the sum of what is seen -/
def val (p : List Nat) (h : Bool) : Int := if h then 0 else if p = [40] then 1 else if p = [41] then -1 else 0
end Mine
end
section
open PySem PySem.W PyProof.Rows PySem.Calls
set_option maxRecDepth 100000
namespace Mine
/-- what stands to the sign whatever flies: all but the namespaces above the base -/
def core (base h : Heap) : Heap := hideAll h ((List.range h.objs.size).filter fun b => (base.get? b).isNone && (match h.get? b with | some o => isDict o.data | none => false))
theorem core_get {base h : Heap} {b : Addr} {o : Obj} (e : h.get? b = some o) (k : (base.get? b).isSome = true ∨ isDict o.data = false) : (core base h).get? b = some o := by
  refine hideAll_get _ e fun m => ?_
  have := (List.mem_filter.mp m).2
  rw [e] at this
  simp only [Bool.and_eq_true] at this
  rcases k with k | k
  · rw [Option.isNone_iff_eq_none.mp this.1] at k; cases k
  · rw [k] at this; exact Bool.false_ne_true this.2
theorem of_core {base h : Heap} {b : Addr} {o : Obj} (e : (core base h).get? b = some o) : h.get? b = some o ∧ ((base.get? b).isSome = true ∨ isDict o.data = false) := by
  have e' := of_hideAll _ e
  refine ⟨e', ?_⟩
  cases q : base.get? b with
  | some _ => exact .inl rfl
  | none =>
    cases z : isDict o.data with
    | false => exact .inr rfl
    | true =>
      have hm : b ∈ (List.range h.objs.size).filter fun b => (base.get? b).isNone && (match h.get? b with | some o => isDict o.data | none => false) :=
        List.mem_filter.mpr ⟨List.mem_range.mpr (Heap.lt_size e'), by rw [q, e']; simpa using z⟩
      have := hideAll_none (h := h) _ hm
      unfold core at e
      rw [this] at e; cases e
theorem core_none {base h : Heap} {b : Addr} (e : h.get? b = none) : (core base h).get? b = none := by
  cases q : (core base h).get? b with
  | none => rfl
  | some o => rw [(of_core q).1] at e; cases e
theorem core_stays {base : Heap} {s s' : Shared} (st : Stp base s s') : (core base s.heap).StaysIn s'.heap := fun b o e => by
  obtain ⟨e1, e2⟩ := of_core e
  obtain ⟨o', e', _, _, k⟩ := st.ext b o e1
  rw [e', k e2]
theorem Stp.fly {base h' : Heap} {s s' : Shared} (st : Stp base s s') (k : (core base s.heap).StaysIn h') (u : s'.heap.UpToSlots h') : Stp base s { s' with heap := h' } := by
  refine ⟨fun b o e => ?_, st.os, st.gens⟩
  obtain ⟨o', e', c', d', k'⟩ := st.ext b o e
  by_cases q : (base.get? b).isSome = true ∨ isDict o.data = false
  · exact ⟨o, k b o (core_get e q), rfl, rfl, fun _ => rfl⟩
  · have hd : isDict o.data = true := by
      cases z : isDict o.data with
      | true => rfl
      | false => exact absurd (.inr z) q
    have hnf : ∀ vs, o'.data ≠ .fields vs := fun vs z => by rw [d'] at z; rw [z] at hd; cases hd
    obtain ⟨sl, e''⟩ := u b o' e' hnf
    exact ⟨_, e'', c', d', fun z => absurd z q⟩
/-- the frames of the stack -/
structure Stk (base h : Heap) (A : Around) (l : List Env) : Prop where
  frames : A.frames = some l
  funs : ∀ env ∈ l, env.scope.kind = .function ∧ ∃ L m, env.frame = some L ∧ base.get? L = none ∧ h.Ns L m
theorem Stk.fun {base : Heap} {s s' : Shared} {A : Around} {l : List Env} (K : Stk base s.heap A l) (st : Stp base s s') : s'.heap.FunFrames (core base s.heap) l := by
  have funs := K.funs
  have go : ∀ l : List Env, (∀ env ∈ l, env.scope.kind = .function ∧ ∃ L m, env.frame = some L ∧ base.get? L = none ∧ s.heap.Ns L m) → s'.heap.FunFrames (core base s.heap) l := by
    intro l
    induction l with
    | nil => intro _; trivial
    | cons env r ih =>
      intro h
      obtain ⟨a, L, m, b, c, d⟩ := h env (.head _)
      refine ⟨by rw [a]; decide, ?_, ih fun e he => h e (.tail _ he)⟩
      obtain ⟨o, es, ep, e, hd, _⟩ := d
      obtain ⟨o', e', _, d', _⟩ := st.ext L o e
      refine ⟨L, o', b, ?_, e', fun vs q => by rw [d', hd] at q; cases q⟩
      cases q : (core base s.heap).get? L with
      | none => rfl
      | some o2 =>
        obtain ⟨q1, q2⟩ := of_core q
        rw [e] at q1; cases q1
        rcases q2 with q2 | q2
        · rw [c] at q2; cases q2
        · rw [hd] at q2; cases q2
  exact go l funs
/-- how far an exception has come -/
inductive Way where
  | new | fly
  | at (L : Addr)
/-- noted: the exception's object, its place in the trace, what flies -/
def Noted (B h : Heap) (X : String) (t e : Addr) (fl : Value) : Prop :=
  ∃ oe vs T oT ts, h.get? e = some oe ∧ oe.cls = .type X ∧ oe.data = .fields vs ∧ vs[0]? = some (.ref t) ∧ vs[1]? = some (.ref T) ∧ vs[2]? = some .none ∧ B.get? T = none ∧ T ≠ e ∧ h.get? T = some oT ∧ oT.data = .fields ts ∧ ts[3]? = some fl
def ExcAt (B h : Heap) (X : String) (t e : Addr) : Way → Prop
  | .new => ∃ oe vs, h.get? e = some oe ∧ oe.cls = .type X ∧ oe.data = .fields vs ∧ vs[0]? = some (.ref t) ∧ vs[1]? = some .none ∧ vs[2]? = some .none
  | .fly => Noted B h X t e .none
  | .at L => Noted B h X t e (rawInt L)
structure Exc (base : Heap) (X : String) (msg : Str) (way : Way) (s s' : Shared) (e : Addr) : Prop where
  stp : Stp base s s'
  new : s.heap.get? e = none
  it : ∃ t tk, ExcAt (core base s.heap) s'.heap X t e way ∧ s'.heap.TupAt t [.str msg tk]
section
variable {M : Model} {A : Around} {E : Value → Shared → Prop} {base : Heap} {X : String} {msg : Str} {s s' : Shared} {e : Addr} {env : Env} {l : List Env} {Q : Unit → Shared → Prop}
/-- a new row of the trace -/
theorem entry_step {B : Heap} {L : Addr} {oe : Obj} {vs : Array Value} {head : Value} {had : Bool} (hfr : A.frames = some (env :: l)) (ff : s.heap.FunFrames B (env :: l)) (hf : env.frame = some L) (kb : B.StaysIn s.heap)
    (he : s.heap.get? e = some oe) (hd : oe.data = .fields vs) (hsz : 1 < vs.size) (hen : B.get? e = none)
    (h : ∀ h' T oT ts, B.StaysIn h' → s.heap.UpToSlots h' → h'.get? e = some (Obj.mapFields (·.setIfInBounds 1 (.ref T)) oe) → B.get? T = none → T ≠ e → h'.get? T = some oT → oT.data = .fields ts → ts[3]? = some (rawInt L) → Q () { s with heap := h' }) :
    wpAny M A (do let a ← frameOf env; let pl ← entryPlaceOf L had; let b ← EntryCells.newEntry head a .none (rawInt L) .none pl; setField (.ref e) 1 b) Q E s := by
  have hne : e ∉ (env :: l).filterMap (·.frame) := fun hm => by
    obtain ⟨_, o, ho, hnf⟩ := ff.mem hm
    rw [he] at ho; cases ho; exact hnf vs hd
  refine wpAny_bind (wpAny_frameOf_fun hfr ff hf fun h₁ hs₁ => ?_)
  refine wpAny_bind (wpAny_entryPlaceOf fun pl hpl => ?_)
  unfold EntryCells.newEntry newFields
  refine wpAny_bind (wpAny_newObj_type ?_ (hpl.sizeOk5 _ _ _ _ _))
  have he₁ : h₁.get? e = some oe := (hs₁.2.1 e hne).trans he
  have kb₁ : B.StaysIn h₁ := fun b o hb => (hs₁.2.1 b fun hm => by rw [(ff.mem hm).1] at hb; cases hb).trans (kb b o hb)
  generalize hT : ({ cls := .type "traceback", dict := none, data := .fields ([head, .ref L, .none, rawInt L, .none] ++ (if pl.isEmpty then List.replicate 6 Value.none else pl)).toArray } : Obj) = oT
  have hTd : oT.data = .fields ([head, .ref L, .none, rawInt L, .none] ++ (if pl.isEmpty then List.replicate 6 Value.none else pl)).toArray := by rw [← hT]
  have hTn : oT.isFreed = false := by rw [← hT]; rfl
  have he₂ := Heap.get?_push_of_some (h := h₁) oT he₁
  refine wpAny_setField he₂ hd hsz ?_
  have hTe : h₁.objs.size ≠ e := Nat.ne_of_gt (Heap.lt_size he₁)
  have other : ∀ b o, b ≠ e → h₁.get? b = some o → ((h₁.push oT).update e (Obj.mapFields (·.setIfInBounds 1 (Value.ref h₁.objs.size)))).get? b = some o := fun b o hb q =>
    (Heap.get?_update_other _ _ (Ne.symm hb)).trans (Heap.get?_push_of_some _ q)
  refine h _ h₁.objs.size oT _ (fun b o q => other b o (fun z => by rw [z, hen] at q; cases q) (kb₁ b o q)) (fun b o q hnf => ?_)
    (Heap.get?_update_self _ he₂ (Obj.isFreed_of_fields (Obj.data_mapFields hd _))) kb₁.fresh hTe ((Heap.get?_update_other _ _ (Ne.symm hTe)).trans (Heap.get?_push_size h₁ hTn)) hTd (by simp)
  obtain ⟨sl, q'⟩ := hs₁.2.2 b o q
  exact ⟨sl, other b _ (fun z => by rw [z, he] at q; cases q; exact hnf vs hd) q'⟩
theorem noted_entry {B h' : Heap} {X : String} {t T : Addr} {oe oT : Obj} {vs ts : Array Value} {fl : Value} (hc : oe.cls = .type X) (hd : oe.data = .fields vs) (h0 : vs[0]? = some (.ref t)) (h2 : vs[2]? = some .none) (hsz : 1 < vs.size)
    (x1 : h'.get? e = some (Obj.mapFields (·.setIfInBounds 1 (.ref T)) oe)) (x2 : B.get? T = none) (x3 : T ≠ e) (x4 : h'.get? T = some oT) (x5 : oT.data = .fields ts) (x6 : ts[3]? = some fl) : Noted B h' X t e fl :=
  ⟨_, _, T, oT, ts, x1, (Obj.cls_mapFields _ _).trans hc, Obj.data_mapFields hd _, by rw [Array.getElem?_setIfInBounds_ne (by decide)]; exact h0, by simp [hsz], by rw [Array.getElem?_setIfInBounds_ne (by decide)]; exact h2, x2, x3, x4, x5, x6⟩
theorem Exc.note {way : Way} {L : Addr} (K : Stk base s.heap A (env :: l)) (x : Exc base X msg way s s' e) (hf : env.frame = some L) (hw : ∀ L', way = .at L' → L' = L) (h : ∀ s'', Exc base X msg (.at L) s s'' e → Q () s'') : wpAny M A (noteFrame (.ref e) env) Q E s' := by
  obtain ⟨st, new, t, tk, it, tup⟩ := x
  have k := core_stays st
  have ff := K.fun st
  have hen := core_none (base := base) new
  unfold noteFrame
  simp only [hf]
  cases way with
  | new =>
    obtain ⟨oe, vs, he, hc, hd, h0, h1, h2⟩ := it
    refine wpAny_bind (wpAny_field he hd h1 ?_)
    rw [if_neg (by decide)]
    have hsz := (Array.getElem?_eq_some_iff.mp h1).1
    exact entry_step K.frames ff hf k he hd hsz hen fun h' T oT ts k1 u x1 x2 x3 x4 x5 x6 => h _ ⟨st.fly k1 u, new, t, tk, noted_entry hc hd h0 h2 hsz x1 x2 x3 x4 x5 x6, tup.of_slots u⟩
  | fly =>
    obtain ⟨oe, vs, T, oT, ts, he, hc, hd, h0, h1, h2, hnT, hTe, hT, hdT, h3⟩ := it
    refine wpAny_bind (wpAny_field he hd h1 ?_)
    rw [if_pos (show (Value.ref T != Value.none) = true from by simp)]
    refine wpAny_bind (wpAny_field hT hdT h3 ?_)
    rw [if_neg (show ¬ ((Value.none == rawInt L) = true) from by simp [rawInt])]
    refine wpAny_bind (wpAny_setField hT hdT (Array.getElem?_eq_some_iff.mp h3).1 ?_)
    have other : ∀ b, b ≠ T → (s'.heap.update T (Obj.mapFields (·.setIfInBounds 3 Value.none))).get? b = s'.heap.get? b := fun b hb => Heap.get?_update_other _ _ (Ne.symm hb)
    have norec : ∀ b o, s'.heap.get? b = some o → (∀ vs, o.data ≠ .fields vs) → b ≠ T := fun b o hb hnf q => by rw [q, hT] at hb; cases hb; exact hnf ts hdT
    have u1 : s'.heap.UpToSlots (s'.heap.update T (Obj.mapFields (·.setIfInBounds 3 Value.none))) := fun b o hb hn => ⟨o.slots, (other b (norec b o hb hn)).trans hb⟩
    have hsz := (Array.getElem?_eq_some_iff.mp h1).1
    refine entry_step (s := { s' with heap := s'.heap.update T (Obj.mapFields (·.setIfInBounds 3 Value.none)) }) K.frames (ff.of_keeps fun b o hb hn => ⟨o, (other b (norec b o hb hn)).trans hb, rfl⟩) hf
      (fun b o hb => (other b fun q => by rw [q, hnT] at hb; cases hb).trans (k b o hb)) ((other e (Ne.symm hTe)).trans he) hd hsz hen fun h' T' oT' ts' k1 u x1 x2 x3 x4 x5 x6 => h _ ⟨st.fly k1 (u1.trans u), new, t, tk, noted_entry hc hd h0 h2 hsz x1 x2 x3 x4 x5 x6, tup.of_slots (u1.trans u)⟩
  | «at» L' =>
    have := hw L' rfl; subst this
    obtain ⟨oe, vs, T, oT, ts, he, hc, hd, h0, h1, h2, hnT, hTe, hT, hdT, h3⟩ := it
    refine wpAny_bind (wpAny_field he hd h1 ?_)
    rw [if_pos (show (Value.ref T != Value.none) = true from by simp)]
    refine wpAny_bind (wpAny_field hT hdT h3 ?_)
    rw [if_pos (show (rawInt L' == rawInt L') = true from by simp)]
    exact wpAny_pure (h _ ⟨st, new, t, tk, ⟨oe, vs, T, oT, ts, he, hc, hd, h0, h1, h2, hnT, hTe, hT, hdT, h3⟩, tup⟩)
theorem Exc.flight {fl fl' : Value} {fr : Option Addr} {way way' : Way} (hfl : fr.elim Value.none (fun f => rawInt f) = fl') (hway : ∀ B h t, ExcAt B h X t e way → Noted B h X t e fl) (hway' : ∀ B h t, Noted B h X t e fl' → ExcAt B h X t e way') (x : Exc base X msg way s s' e) (h : ∀ s'', Exc base X msg way' s s'' e → Q () s'') : wpAny M A (setFlight (.ref e) fr) Q E s' := by
  obtain ⟨st, new, t, tk, it, tup⟩ := x
  have k := core_stays st
  obtain ⟨oe, vs, T, oT, ts, he, hc, hd, h0, h1, h2, hnT, hTe, hT, hdT, h3⟩ := hway _ _ _ it
  unfold setFlight
  refine wpAny_bind (wpAny_field he hd h1 ?_)
  rw [if_pos (show (Value.ref T != Value.none) = true from by simp)]
  have hsz3 : 3 < ts.size := (Array.getElem?_eq_some_iff.mp h3).1
  refine wpAny_setField hT hdT hsz3 ?_
  rw [hfl]
  have other : ∀ b, b ≠ T → (s'.heap.update T (Obj.mapFields (·.setIfInBounds 3 fl'))).get? b = s'.heap.get? b := fun b hb => Heap.get?_update_other _ _ (Ne.symm hb)
  have norec : ∀ b o, s'.heap.get? b = some o → (∀ vs, o.data ≠ .fields vs) → b ≠ T := fun b o hb hnf q => by rw [q, hT] at hb; cases hb; exact hnf ts hdT
  have u : s'.heap.UpToSlots (s'.heap.update T (Obj.mapFields (·.setIfInBounds 3 fl'))) := fun b o hb hn => ⟨o.slots, (other b (norec b o hb hn)).trans hb⟩
  exact h _ ⟨st.fly (fun b o hb => (other b fun q => by rw [q, hnT] at hb; cases hb).trans (k b o hb)) u, new, t, tk,
    hway' _ _ _ ⟨oe, vs, T, _, _, (other e (Ne.symm hTe)).trans he, hc, hd, h0, h1, h2, hnT, hTe, Heap.get?_update_self _ hT (Obj.isFreed_of_fields (Obj.data_mapFields hdT _)), Obj.data_mapFields hdT _, by simp [hsz3]⟩, tup.of_slots u⟩
theorem Exc.land {way : Way} (x : Exc base X msg way s s' e) (hw : way ≠ .new) (h : ∀ s'', Exc base X msg .fly s s'' e → Q () s'') : wpAny M A (setFlight (.ref e) none) Q E s' := by
  cases way with
  | new => exact absurd rfl hw
  | fly => exact Exc.flight (way := .fly) (way' := .fly) (fl := .none) (fl' := .none) rfl (fun _ _ _ z => z) (fun _ _ _ z => z) x h
  | «at» L => exact Exc.flight (way := .at L) (way' := .fly) (fl := rawInt L) (fl' := .none) rfl (fun _ _ _ z => z) (fun _ _ _ z => z) x h
theorem Exc.leave {way : Way} (K : Stk base s.heap A (env :: l)) (x : Exc base X msg way s s' e) (hw : ∀ L, way = .at L → env.frame = some L) (h : ∀ s'', Exc base X msg .fly s s'' e → Q () s'') : wpAny M A (leaving env (.ref e)) Q E s' := by
  obtain ⟨_, L, m, hf, _⟩ := K.funs env (.head _)
  unfold leaving
  exact wpAny_bind (x.note K hf (fun L' z => by have := hw L' z; rw [hf] at this; cases this; rfl) fun s₁ x₁ => x₁.land (by simp) h)
/-- seen from farther back -/
theorem Exc.of_mv {way : Way} {W : Addr → Prop} {s₀ : Shared} (x : Exc base X msg way s s' e) (m : Mv base W s₀ s) (hW : ∀ b, W b → s₀.heap.get? b = none) : Exc base X msg way s₀ s' e := by
  obtain ⟨st, new, t, tk, it, tup⟩ := x
  have st0 := m.stp hW
  have hc : ∀ b, (core base s.heap).get? b = none → (core base s₀.heap).get? b = none := fun b hb => by
    cases q : (core base s₀.heap).get? b with
    | none => rfl
    | some o =>
      obtain ⟨q1, q2⟩ := of_core q
      obtain ⟨o', e', _, _, k'⟩ := st0.ext b o q1
      have := k' q2; subst this
      rw [core_get e' q2] at hb; cases hb
  refine ⟨st0.trans st, m.dom e new, t, tk, ?_, tup⟩
  have go : ∀ fl, Noted (core base s.heap) s'.heap X t e fl → Noted (core base s₀.heap) s'.heap X t e fl := fun fl ⟨oe, vs, T, oT, ts, he, hc', hd, h0, h1, h2, hnT, r⟩ => ⟨oe, vs, T, oT, ts, he, hc', hd, h0, h1, h2, hc T hnT, r⟩
  cases way with
  | new => exact it
  | fly => exact go _ it
  | «at» L => exact go _ it
theorem Exc.of_stp {way : Way} {s₀ : Shared} (x : Exc base X msg way s s' e) (m : Stp base s₀ s) : Exc base X msg way s₀ s' e := x.of_mv (W := fun _ => False) m.mv fun _ h => h.elim
end
end Mine
end
section
open PySem PySem.W PyProof.Rows PySem.Calls
set_option maxRecDepth 100000
namespace Mine
section
variable {G : Gr} {n : Nat} {env : Env} {σ : St} {fp : Addr → Prop} {H : Around → Heap → Prop}
def EvP (G : Gr) (n : Nat) (env : Env) (H : Around → Heap → Prop) (σ : St) (e : Expr) (d : D) : Prop := ∀ ok A s E, H A s.heap → Room n A → G.base.StaysIn s.heap → Inv G.base ok env σ s.heap →
  wpAny G.M A (eval e env) (fun v s' => Stp G.base s s' ∧ Rep (okO ok σ) s'.heap v d) E s
def EvLP (G : Gr) (n : Nat) (env : Env) (H : Around → Heap → Prop) (σ : St) (es : List Expr) (ds : List D) : Prop := ∀ ok A s E p, H A s.heap → Room n A → G.base.StaysIn s.heap → Inv G.base ok env σ s.heap →
  wpAny G.M A (spliced (backTo p (starEach es env))) (fun vs s' => Stp G.base s s' ∧ RepAll (okO ok σ) s'.heap vs ds) E s
def TrP (G : Gr) (n : Nat) (env : Env) (H : Around → Heap → Prop) (σ : St) (e : Expr) (b : Bool) : Prop := ∀ ok A s E, H A s.heap → Room n A → G.base.StaysIn s.heap → Inv G.base ok env σ s.heap →
  wpAny G.M A (isTrue e env (eval e env)) (fun r s' => Stp G.base s s' ∧ r = b) E s
theorem EvP.of {e : Expr} {d : D} (h : Ev G n env σ e d) : EvP G n env H σ e d := fun ok A s E _ r k i => h ok A s E r k i
theorem ExP1.of {st : Stmt} {Q : Fl → St → Prop} (h : Ex1 G n env σ st Q) : ExP1 G n env H σ st Q := fun ok A s E _ r k i => h ok A s E r k i
theorem TrP.cast {e : Expr} {c c' : Bool} (h : TrP G n env H σ e c) (q : c = c') : TrP G n env H σ e c' := q ▸ h
theorem ExP1.mono {st : Stmt} {Q Q' : Fl → St → Prop} (a : ExP1 G n env H σ st Q) (h : ∀ fl σ', Q fl σ' → Q' fl σ') : ExP1 G n env H σ st Q' := fun ok A s E q r k i => wpAny_mono (a ok A s E q r k i) (fun _ _ p => p.mono h) fun _ _ x => x
theorem TrP.cmp {a b : Expr} {op : CmpOp} {p : Pos} {da db : D} {c : Bool} (R : Rd G.base env fp H) (ha : EvP G n env H σ a da) (hb : EvP G n env H σ b db) (ho : CmpD G n op da db c) (hm : behindInMarks op b = false := by with_unfolding_all rfl) :
    TrP G n env H σ (.Compare a [op] [b] p) c := fun ok A s E q r k i =>
  wpAny_isTrue_Compare1 (wpAny_mono (ha ok A s E q r k i) (fun va s₁ p₁ => wpAny_mono (hb ok A s₁ E (R.ext p₁.1.ext q) r (p₁.1.ext.base k) (i.ext p₁.1.ext)) (fun vb s₂ p₂ =>
    have st := p₁.1.trans p₂.1
    wpAny_mono (ho _ A s₂ E va vb r (st.ext.base k) (i.ext st.ext).freshO (p₁.2.stp p₂.1) p₂.2) (fun _ _ p₃ => by rw [p₃.2]; exact wpAny_truthy_bool ⟨st.trans p₃.1, rfl⟩) fun _ _ x => x) fun _ _ x => x) fun _ _ x => x) hm
theorem ExP.nil {Q : Fl → St → Prop} (h : Q .next σ) : ExP G n env H σ [] Q := .of (.nil h)
theorem ExP.cons {st : Stmt} {rest : List Stmt} {Q : Fl → St → Prop} (R : Rd G.base env fp H) (h : ExP1 G n env H σ st fun fl σ' => match fl with | .next => ExP G n env H σ' rest Q | fl => Q fl σ') : ExP G n env H σ (st :: rest) Q := fun ok A s E q r k i =>
  wpAny_execs_cons (wpAny_mono (h ok A s E q r k i) (fun f s' a => by
    obtain ⟨fl, σ', qq, fi, i', m, k', o⟩ := a
    cases f <;> cases fl <;> first | exact fi.elim | skip
    · exact wpAny_mono (qq ok A s' E (R.mv i m q) r k' i') (fun _ _ a => a.trans m o m.dom) fun _ _ x => x
    · exact ⟨.brk, σ', qq, trivial, i', m, k', o⟩
    · exact ⟨.cont, σ', qq, trivial, i', m, k', o⟩
    · exact ⟨.ret _, σ', qq, fi, i', m, k', o⟩) fun _ _ x => x)
theorem ExP.step {st : Stmt} {rest : List Stmt} {Q : Fl → St → Prop} {P : St → Prop} (R : Rd G.base env fp H) (h : ExP1 G n env H σ st fun fl σ' => fl = .next ∧ P σ') (hr : ∀ σ', P σ' → ExP G n env H σ' rest Q) : ExP G n env H σ (st :: rest) Q :=
  .cons R (h.mono fun fl σ' p => by obtain ⟨rfl, p⟩ := p; exact hr σ' p)
theorem ExP.one {st : Stmt} {rest : List Stmt} {Q : Fl → St → Prop} {σ' : St} (R : Rd G.base env fp H) (h : ExP1 G n env H σ st fun fl σ'' => fl = .next ∧ σ'' = σ') (hr : ExP G n env H σ' rest Q) : ExP G n env H σ (st :: rest) Q :=
  .step R h fun _ e => e ▸ hr
theorem ExP1.ite {t : Expr} {a b : List Stmt} {pos : Pos} {c : Bool} {Q : Fl → St → Prop} (R : Rd G.base env fp H) (h : TrP G n env H σ t c) (ha : c = true → ExP G n env H σ a Q) (hb : c = false → ExP G n env H σ b Q) : ExP1 G n env H σ (.If t a b pos) Q := fun ok A s E q r k i =>
  wpAny_If (wpAny_mono (h ok A s E q r k i) (fun c' s₁ p₁ => by
    obtain ⟨st, rfl⟩ := p₁
    have go : ∀ body, ExP G n env H σ body Q → wpAny G.M A (execs body env) (After G env σ ok s Q) E s₁ := fun body hq =>
      wpAny_mono (hq ok A s₁ E (R.ext st.ext q) r (st.ext.base k) (i.ext st.ext)) (fun _ _ a => a.trans st.mv (fun _ w => .inl w) fun b e => st.ext.none e) fun _ _ x => x
    cases c' with
    | true => exact go _ (ha rfl)
    | false => exact go _ (hb rfl)) fun _ _ x => x)
theorem ExP.only {σ₀ : St} {body : List Stmt} {Q : Fl → St → Prop} (hs : Sub σ₀ σ) (h : ExP G n env H σ₀ body Q) (hn : (σ₀.map (·.1)).Nodup := by simp; try decide) : ExP G n env H σ body Q := fun ok A s E q r k i =>
  wpAny_mono (h ok A s E q r k (i.sub hs (Sub.nodup i.once hn hs))) (fun _ _ a => a.sub hs.owned) fun _ _ x => x
theorem ExP1.only {σ₀ : St} {st : Stmt} {Q : Fl → St → Prop} (hs : Sub σ₀ σ) (h : ExP1 G n env H σ₀ st Q) (hn : (σ₀.map (·.1)).Nodup := by simp; try decide) : ExP1 G n env H σ st Q := fun ok A s E q r k i =>
  wpAny_mono (h ok A s E q r k (i.sub hs (Sub.nodup i.once hn hs))) (fun _ _ a => a.sub hs.owned) fun _ _ x => x
theorem ExP.freeze {x : Str} {a : Addr} {ds : List D} {body : List Stmt} {Q : Fl → St → Prop} (l : σ.lookup x = some (.own a ds)) (h : ExP G n env H (setS x (.val (.list ds)) σ) body Q) : ExP G n env H σ body Q := fun ok A s E q r k i =>
  wpAny_mono (h ok A s E q r k (i.freeze l)) (fun _ _ a => a.sub fun b w => owned_setS_val w) fun _ _ x => x
theorem ExP.post {body : List Stmt} {Q Q' : Fl → St → Prop} (h : ExP G n env H σ body Q) (hq : ∀ fl σ', Q fl σ' → Q' fl σ' ∨ ∃ σ₀, Sub σ₀ σ' ∧ (σ₀.map (·.1)).Nodup ∧ Q' fl σ₀) : ExP G n env H σ body Q' := fun ok A s E q r k i =>
  wpAny_mono (h ok A s E q r k i) (fun f s' a => by
    obtain ⟨fl, σ', q, fi, i', m, k', o⟩ := a
    rcases hq fl σ' q with q' | ⟨σ₀, hs, hn, q'⟩
    · exact ⟨fl, σ', q', fi, i', m, k', o⟩
    exact ⟨fl, σ₀, q', fi, i'.sub hs (Sub.nodup i'.once hn hs), m, k', fun b w => o b (hs.owned b w)⟩) fun _ _ x => x
theorem EvLP.nil : EvLP G n env H σ [] [] := fun _ _ _ _ _ _ _ _ _ => args_nil ⟨.refl, .nil⟩
theorem EvLP.cons {e : Expr} {es : List Expr} {d : D} {ds : List D} (R : Rd G.base env fp H) (h : EvP G n env H σ e d) (hs : EvLP G n env H σ es ds) (he : starEach (e :: es) env = (false, eval e env) :: starEach es env := by rfl) : EvLP G n env H σ (e :: es) (d :: ds) := fun ok A s E p q r k i =>
  args_cons (wpAny_mono (h ok A s E q r k i) (fun v s₁ p₁ => wpAny_mono (hs ok A s₁ E p (R.ext p₁.1.ext q) r (p₁.1.ext.base k) (i.ext p₁.1.ext)) (fun vs s₂ p₂ => ⟨p₁.1.trans p₂.1, .cons (p₁.2.stp p₂.1) p₂.2⟩) fun _ _ x => x) fun _ _ x => x) he
/-- a call that needs to know the stack -/
def CallP (G : Gr) (n : Nat) (f : Value) (ds : List D) (d : D) : Prop := ∀ ok A s E vs l, Room n A → G.base.StaysIn s.heap → FreshOk ok s.heap → Stk G.base s.heap A l → RepAll ok s.heap vs ds →
  wpAny G.M A (call f vs) (fun v s' => Stp G.base s s' ∧ Rep ok s'.heap v d) E s
/-- what is known tells the stack -/
def Tells (G : Gr) (env : Env) (H : Around → Heap → Prop) : Prop := ∀ ok A h σ, H A h → Inv G.base ok env σ h → ∃ l, Stk G.base h A (env :: l)
theorem EvP.call {x : Str} {p pos : Pos} {es : List Expr} {f : Value} {ds : List D} {d : D} (R : Rd G.base env fp H) (T : Tells G env H) (hf : Ev G n env σ (.Name x p) (.raw f)) (c : Callee G f) (ha : EvLP G n env H σ es ds) (hc : CallP G n f ds d)
    (hns : noStar es = true := by rfl) (hplain : (backTo pos (starEach es env)).any (·.1) = false := by rfl) : EvP G n env H σ (.Call (.Name x p) es [] pos) d := fun ok A s E q r k i =>
  Call_ (wpAny_mono (hf ok A s E r k i) (fun v s₁ p₁ => by
    obtain ⟨st, rp⟩ := p₁
    cases rp
    refine callWith_callee c hplain (wpAny_mono (ha ok A s₁ E pos (R.ext st.ext q) r (st.ext.base k) (i.ext st.ext)) (fun vs s₂ p₂ => ?_) fun _ _ x => x) hns
    have st2 := st.trans p₂.1
    obtain ⟨l, K⟩ := T ok A _ σ (R.ext st2.ext q) (i.ext st2.ext)
    exact ⟨st2.ext.base k, wpAny_mono (hc _ A s₂ E vs _ r (st2.ext.base k) (i.ext st2.ext).freshO K p₂.2) (fun _ _ p₃ => ⟨st2.trans p₃.1, p₃.2⟩) fun _ _ x => x⟩) fun _ _ x => x)
end
end Mine
end
section
open PySem PySem.W PyProof.Rows PySem.Calls
set_option maxRecDepth 100000
namespace Mine
/-- the frame and those below it -/
def HS (base : Heap) (env : Env) (l : List Env) : Around → Heap → Prop := fun A h => A.frames = some (env :: l) ∧ env.frame = some env.locals ∧
  ∀ env' ∈ l, env'.scope.kind = .function ∧ ∃ L m, env'.frame = some L ∧ base.get? L = none ∧ h.Ns L m ∧ L ≠ env.locals
def fpS (l : List Env) : Addr → Prop := fun b => ∃ env' ∈ l, env'.frame = some b
theorem ns_same {base h h' : Heap} {b : Addr} {m : Str → Option Value} (k : Same1 base h h' b) (n : h.Ns b m) : h'.Ns b m := by
  obtain ⟨o, es, ep, e, d, r⟩ := n
  obtain ⟨o', e', _, d', _⟩ := k o e
  exact ⟨o', es, ep, e', d'.trans d, r⟩
theorem rdS {base : Heap} {env : Env} {l : List Env} : Rd base env (fpS l) (HS base env l) where
  keep := fun A h h' ⟨a, b, c⟩ k => ⟨a, b, fun e he => let ⟨c1, L, m, c2, c3, c4, c5⟩ := c e he; ⟨c1, L, m, c2, c3, ns_same (k L ⟨e, he, c2⟩) c4, c5⟩⟩
  apart := fun A h ⟨a, b, c⟩ F x ⟨e, he, hx⟩ => by
    obtain ⟨c1, L, m, c2, c3, c4, c5⟩ := c e he
    rw [hx] at c2; cases c2
    obtain ⟨o, es, ep, e1, d1, _⟩ := c4
    refine ⟨by rw [e1]; rfl, ?_, ?_⟩
    · rintro (w | ⟨y, w⟩)
      · exact c5 w
      · obtain ⟨v, o2, e2, d2⟩ := F.cells y _ w
        rw [e1] at e2; cases e2; rw [d1] at d2; cases d2
    · rintro vs ⟨k, e2⟩
      rw [e1] at e2; cases e2; cases d1
theorem HS.stk {base h : Heap} {env : Env} {l : List Env} {A : Around} (x : HS base env l A h) (F : Frame env h) (off : base.get? env.locals = none) : Stk base h A (env :: l) := by
  obtain ⟨a, b, c⟩ := x
  refine ⟨a, fun e he => ?_⟩
  rcases List.mem_cons.mp he with q | q
  · subst q; exact ⟨F.kind, let ⟨m, q⟩ := F.ns; ⟨_, m, b, off, q⟩⟩
  · obtain ⟨c1, L, m, c2, c3, c4, _⟩ := c e q
    exact ⟨c1, L, m, c2, c3, c4⟩
theorem tellsS {G : Gr} {env : Env} {l : List Env} : Tells G env (HS G.base env l) := fun ok A h σ x i => ⟨l, x.stk i.frame (i.off _ (.inl (.inl rfl)))⟩
section
variable {G : Gr} {n : Nat}
/-- into a def's frame -/
theorem call_enter {d : DefRec} {a : Addr} {ds : List D} {Q : Value → Shared → Prop} {E : Value → Shared → Prop} {ok : Addr → Prop} {A : Around} {s : Shared} {vs : List Value} (F : FnAt G d a) (hds : d.params.args.length = ds.length)
    (hbind : ∀ pm code doc vs, vs.length = ds.length → bindArgs (docDef d.name d.params d.body d.scope pm code doc) ⟨vs, []⟩ = pure ((d.params.args.map (·.arg)).zip vs))
    (hkind : (d.params.args.all fun y => d.scope.names.lookup y.arg == some .local || d.scope.names.lookup y.arg == some .cell) = true) (hnd : (d.params.args.map (·.arg)).Nodup)
    (hco : d.scope.isCoroutine = false) (hgen : d.scope.isGenerator = false) (hk : d.scope.kind = .function)
    (rm : Room (n + 1) A) (k : G.base.StaysIn s.heap) (fr : FreshOk ok s.heap) (rs : RepAll ok s.heap vs ds)
    (h : ∀ env s₁, FEnv env d.scope → env.frame = some env.locals → Stp G.base s s₁ → Inv G.base ok env ((d.params.args.map (·.arg)).zip (ds.map Slot.val)) s₁.heap → (∀ b, FrW env b → s.heap.get? b = none) → Room n (A.deeper env) →
      wpAny G.M (A.deeper env) (execs d.body env) (fun f s' => Q (match f with | .ret v => v | _ => .none) s') (fun x s' => wpAny G.M (A.deeper env) (leaving env x) (fun _ s'' => E x s'') E s') s₁) :
    wpAny G.M A (call (.ref a) vs) Q E s := by
  obtain ⟨o, pm, code, doc, ho, hd, hcd⟩ := F.obj
  refine wpAny_call (codeAny_call_cells (fd := docDef d.name d.params d.body d.scope pm code doc) (body := d.body) (vals := vs) (binds := (d.params.args.map (·.arg)).zip vs) (by have := rm.depth; omega) (k _ _ ho) hd (G.nolimit.keeps k) (hcd.keeps k) rfl (hbind _ _ _ _ rs.length) rfl ?_ (fun s₁ x => ?_) hco hgen hk)
  · intro p hp
    have hm : p.1 ∈ d.params.args.map (·.arg) := (List.of_mem_zip hp).1
    obtain ⟨y, hy, e⟩ := List.mem_map.mp hm
    have := List.all_eq_true.mp hkind y hy
    rw [e] at this
    exact kindsX (scope := d.scope) (binds := [(p.1, p.2)]) (by simpa using this) _ (p.1, p.2) (by simp)
  · generalize henv : callEnvC (docDef d.name d.params d.body d.scope pm code doc) s.heap.objs.size a = env at x ⊢
    have hsc : env.scope = d.scope := by rw [← henv]; rfl
    have hcs : env.cells = cellsFrom (s.heap.objs.size + 1) d.scope.names [] := by rw [← henv]; rfl
    have hfl : env.frame = some env.locals := by rw [← henv]; rfl
    have FE : FEnv env d.scope := ⟨hsc, fun y hy => by rw [hcs]; exact cellsFrom_some _ _ _ (.inl hy)⟩
    have hnoL : ∀ b, s.heap.objs.size ≤ b → s.heap.get? b = none := fun b hb => by
      cases q : s.heap.get? b with
      | none => rfl
      | some o => exact absurd (Nat.lt_of_lt_of_le (Heap.lt_size q) hb) (Nat.lt_irrefl _)
    have hfw : ∀ b, FrW env b → s.heap.get? b = none := fun b w => by
      rcases w with w | ⟨y, w⟩
      · exact hnoL b (w ▸ x.toInCall.fresh)
      · exact hnoL b (Nat.le_of_lt (Nat.lt_of_le_of_lt x.toInCall.fresh (x.above y b (mem_of_lookup w))))
    have hvl : ((d.params.args.map (·.arg)).zip vs).map (·.1) = d.params.args.map (·.arg) := by
      rw [List.map_fst_zip]; rw [List.length_map, hds, rs.length]; exact Nat.le_refl _
    have hnd' : (((d.params.args.map (·.arg)).zip vs).map (·.1)).Nodup := by rw [hvl]; exact hnd
    have st : Stp G.base s s₁ := by
      obtain ⟨h', tk, rfl, hkp⟩ := x.done
      exact .heap hkp
    have inv : Inv G.base ok env ((d.params.args.map (·.arg)).zip (ds.map Slot.val)) s₁.heap := by
      refine ⟨⟨by rw [hsc]; exact hk, ⟨_, x.toInCall.ns⟩, fun y c l => ⟨_, x.cell y c l⟩, x.apart, fun y c l => Nat.ne_of_gt (x.above y c (mem_of_lookup l)), by rw [← henv]; rfl, by rw [← henv]; rfl⟩,
        fun b w => ?_, fr.stp st.ext, fun y e l => ?_, fun y b es l => absurd l (lookup_zip_own _ _), fun b w => ?_, ?_⟩
      · rw [Wr, owned_zip] at w
        have := hfw b (w.elim id fun z => nomatch z)
        cases q : G.base.get? b with
        | none => rfl
        | some o => rw [k b o q] at this; cases this
      · obtain ⟨v, hm, rp⟩ := repAll_zip rs l
        refine ⟨v, ?_, (rp.stp st).weak fun b q => ⟨q, by rw [owned_zip]; simp⟩⟩
        have hy : y ∈ d.params.args.map (·.arg) := (List.of_mem_zip hm).1
        obtain ⟨z, hz, e⟩ := List.mem_map.mp hy
        have hkd := List.all_eq_true.mp hkind z hz
        rw [e] at hkd
        rcases Bool.or_eq_true_iff.mp hkd with q | q
        · have q' : env.kindOf y = some .local := FE.kind (by simpa using q)
          exact .inl ⟨q', _, x.toInCall.ns, bindL_get _ q' _ _ hnd' hm⟩
        · have q0 : d.scope.names.lookup y = some .cell := by simpa using q
          have q' : env.kindOf y = some .cell := FE.kind q0
          obtain ⟨c, hc⟩ := Option.isSome_iff_exists.mp (FE.cells y q0)
          refine .inr ⟨.inl q', c, hc, ?_⟩
          have := x.cell y c hc
          rw [bindC_get _ q' _ _ hnd' hm] at this
          exact this
      · rw [owned_zip] at w; cases w
      · rw [owned_zip]; exact List.nodup_nil
    exact h env s₁ FE hfl st inv hfw rm.deeper
theorem HS.enter {base : Heap} {A : Around} {s s₁ : Shared} {l : List Env} {env : Env} (K : Stk base s.heap A l) (st : Stp base s s₁) (hfl : env.frame = some env.locals) (hfw : ∀ b, FrW env b → s.heap.get? b = none) : HS base env l (A.deeper env) s₁.heap :=
  ⟨Around.frames_deeper K.frames, hfl, fun e he => let ⟨c1, L, m, c2, c3, c4⟩ := K.funs e he; ⟨c1, L, m, c2, c3, st.ext.ns c4, fun z => by
    have := hfw L (.inl z)
    obtain ⟨o, _, _, e1, _⟩ := c4
    rw [e1] at this; cases this⟩⟩
theorem CallP.def {d : DefRec} {a : Addr} {ds : List D} {r : D} (F : FnAt G d a) (hds : d.params.args.length = ds.length)
    (hbind : ∀ pm code doc vs, vs.length = ds.length → bindArgs (docDef d.name d.params d.body d.scope pm code doc) ⟨vs, []⟩ = pure ((d.params.args.map (·.arg)).zip vs))
    (hkind : (d.params.args.all fun y => d.scope.names.lookup y.arg == some .local || d.scope.names.lookup y.arg == some .cell) = true) (hnd : (d.params.args.map (·.arg)).Nodup)
    (h : ∀ env l, FEnv env d.scope → ExP G n env (HS G.base env l) ((d.params.args.map (·.arg)).zip (ds.map Slot.val)) d.body fun fl _ => fl = .ret r)
    (hco : d.scope.isCoroutine = false) (hgen : d.scope.isGenerator = false) (hk : d.scope.kind = .function) : CallP G (n + 1) (.ref a) ds r := fun ok A s E vs l rm k fr K rs => by
  refine call_enter F hds hbind hkind hnd hco hgen hk rm k fr rs fun env s₁ FE hfl st inv hfw rm' => ?_
  refine wpAny_mono (h env l FE ok _ s₁ (fun _ _ => False) (HS.enter K st hfl hfw) rm' (st.ext.base k) inv) (fun f s₂ q => ?_) fun _ _ x => x.elim
  obtain ⟨fl, σ', rfl, fi, _, mv, _, _⟩ := q
  cases f with
  | ret v =>
    refine ⟨?_, fi⟩
    have m2 : Mv G.base (FrW env) s s₂ := ((st.mv (W := FrW env))).trans mv fun b w => by rw [Wr, owned_zip] at w; exact .inl (w.elim id fun z => nomatch z)
    exact m2.stp hfw
  | _ => exact fi.elim
/-- what a raise leaves -/
def RX (G : Gr) (X : String) (msg : Str) (s : Shared) (x : Value) (s' : Shared) : Prop := ∃ e w, x = .ref e ∧ (w = .new ∨ w = .fly) ∧ Exc G.base X msg w s s' e
def CallX (G : Gr) (n : Nat) (f : Value) (ds : List D) (X : String) (msg : Str) : Prop := ∀ ok A s vs l, Room n A → G.base.StaysIn s.heap → FreshOk ok s.heap → Stk G.base s.heap A l → RepAll ok s.heap vs ds →
  wpAny G.M A (call f vs) (fun _ _ => False) (RX G X msg s) s
theorem RX.of_stp {X : String} {msg : Str} {s s₁ s' : Shared} {x : Value} (h : RX G X msg s₁ x s') (st : Stp G.base s s₁) : RX G X msg s x s' :=
  let ⟨e, w, a, b, c⟩ := h; ⟨e, w, a, b, c.of_stp st⟩
section
variable {env : Env} {σ : St} {fp : Addr → Prop} {H : Around → Heap → Prop} {X : String} {msg : Str}
def EvX (G : Gr) (n : Nat) (env : Env) (H : Around → Heap → Prop) (σ : St) (e : Expr) (X : String) (msg : Str) : Prop := ∀ ok A s, H A s.heap → Room n A → G.base.StaysIn s.heap → Inv G.base ok env σ s.heap →
  wpAny G.M A (eval e env) (fun _ _ => False) (RX G X msg s) s
/-- where a body's raise leaves the frame's own: at s₁, all behind that is the exception's way -/
def RB (G : Gr) (env : Env) (H : Around → Heap → Prop) (σ : St) (X : String) (msg : Str) (A : Around) (s : Shared) (x : Value) (s' : Shared) : Prop :=
  ∃ s₁ e w, x = .ref e ∧ (w = .new ∨ w = .fly ∨ ∃ L, w = .at L ∧ env.frame = some L) ∧ Mv G.base (Wr env σ) s s₁ ∧ Frame env s₁.heap ∧ H A s₁.heap ∧ Exc G.base X msg w s₁ s' e
def ExX (G : Gr) (n : Nat) (env : Env) (H : Around → Heap → Prop) (σ : St) (body : List Stmt) (X : String) (msg : Str) : Prop := ∀ ok A s, H A s.heap → Room n A → G.base.StaysIn s.heap → Inv G.base ok env σ s.heap →
  wpAny G.M A (execs body env) (fun _ _ => False) (RB G env H σ X msg A s) s
def ExX1 (G : Gr) (n : Nat) (env : Env) (H : Around → Heap → Prop) (σ : St) (st : Stmt) (X : String) (msg : Str) : Prop := ∀ ok A s, H A s.heap → Room n A → G.base.StaysIn s.heap → Inv G.base ok env σ s.heap →
  wpAny G.M A (exec st env) (fun _ _ => False) (RB G env H σ X msg A s) s
theorem RX.rb {A : Around} {s s' : Shared} {x : Value} {ok : Addr → Prop} (h : RX G X msg s x s') (q : H A s.heap) (i : Inv G.base ok env σ s.heap) : RB G env H σ X msg A s x s' :=
  let ⟨e, w, a, b, c⟩ := h; ⟨s, e, w, a, b.elim .inl fun z => .inr (.inl z), Stp.refl.mv, i.frame, q, c⟩
theorem ExX.head {st : Stmt} {rest : List Stmt} (h : ExX1 G n env H σ st X msg) : ExX G n env H σ (st :: rest) X msg := fun ok A s q r k i =>
  wpAny_execs_cons (wpAny_mono (h ok A s q r k i) (fun _ _ z => z.elim) fun _ _ z => z)
theorem ExX1.assign {x : Str} {e : Expr} {p pos : Pos} (h : EvX G n env H σ e X msg) (hs : swapsWith e (some (.Name x p)) pos.line env = pure false := by rfl) : ExX1 G n env H σ (.Assign [.Name x p] e pos) X msg := fun ok A s q r k i =>
  wpAny_Assign_Name (wpAny_mono (h ok A s q r k i) (fun _ _ z => z.elim) fun _ _ z => z.rb q i) hs
theorem EvX.call {x : Str} {p pos : Pos} {es : List Expr} {f : Value} {ds : List D} (R : Rd G.base env fp H) (T : Tells G env H) (hf : Ev G n env σ (.Name x p) (.raw f)) (c : Callee G f) (ha : EvLP G n env H σ es ds) (hc : CallX G n f ds X msg)
    (hns : noStar es = true := by rfl) (hplain : (backTo pos (starEach es env)).any (·.1) = false := by rfl) : EvX G n env H σ (.Call (.Name x p) es [] pos) X msg := fun ok A s q r k i =>
  Call_ (wpAny_mono (hf ok A s _ r k i) (fun v s₁ p₁ => by
    obtain ⟨st, rp⟩ := p₁
    cases rp
    refine callWith_callee c hplain (wpAny_mono (ha ok A s₁ _ pos (R.ext st.ext q) r (st.ext.base k) (i.ext st.ext)) (fun vs s₂ p₂ => ?_) fun _ _ x => x) hns
    have st2 := st.trans p₂.1
    obtain ⟨l, K⟩ := T ok A _ σ (R.ext st2.ext q) (i.ext st2.ext)
    exact ⟨st2.ext.base k, wpAny_mono (hc _ A s₂ vs _ r (st2.ext.base k) (i.ext st2.ext).freshO K p₂.2) (fun _ _ z => z.elim) fun _ _ z => z.of_stp st2⟩) fun _ _ x => x)
end
theorem CallX.def {d : DefRec} {a : Addr} {ds : List D} {X : String} {msg : Str} (F : FnAt G d a) (hds : d.params.args.length = ds.length)
    (hbind : ∀ pm code doc vs, vs.length = ds.length → bindArgs (docDef d.name d.params d.body d.scope pm code doc) ⟨vs, []⟩ = pure ((d.params.args.map (·.arg)).zip vs))
    (hkind : (d.params.args.all fun y => d.scope.names.lookup y.arg == some .local || d.scope.names.lookup y.arg == some .cell) = true) (hnd : (d.params.args.map (·.arg)).Nodup)
    (h : ∀ env l, FEnv env d.scope → ExX G n env (HS G.base env l) ((d.params.args.map (·.arg)).zip (ds.map Slot.val)) d.body X msg)
    (hco : d.scope.isCoroutine = false) (hgen : d.scope.isGenerator = false) (hk : d.scope.kind = .function) : CallX G (n + 1) (.ref a) ds X msg := fun ok A s vs l rm k fr K rs => by
  refine call_enter F hds hbind hkind hnd hco hgen hk rm k fr rs fun env s₁ FE hfl st inv hfw rm' => ?_
  refine wpAny_mono (h env l FE ok _ s₁ (HS.enter K st hfl hfw) rm' (st.ext.base k) inv) (fun f s₂ z => z.elim) fun x s' z => ?_
  obtain ⟨s₂, e, w, rfl, hw, mv, fr2, h2, ex⟩ := z
  have off : G.base.get? env.locals = none := inv.off _ (.inl (.inl rfl))
  refine ex.leave (h2.stk fr2 off) (fun L q => ?_) fun s'' ex' => ⟨e, .fly, rfl, .inr rfl, ?_⟩
  · rcases hw with hw | hw | ⟨L', hw, hL⟩
    · rw [hw] at q; cases q
    · rw [hw] at q; cases q
    · rw [hw] at q; cases q; exact hL
  · have m2 : Mv G.base (FrW env) s s₂ := ((st.mv (W := FrW env))).trans mv fun b w => by rw [Wr, owned_zip] at w; exact .inl (w.elim id fun z => nomatch z)
    exact ex'.of_mv m2 hfw
end
end Mine
end
section
open PySem PySem.W PyProof.Rows PySem.Calls
set_option maxRecDepth 100000
namespace Mine
section
variable {α : Type} {M : Model} {A : Around} {E : Value → Shared → Prop} {s : Shared} {base : Heap} {X : String}
theorem Exc.made {h' : Heap} {tk : Nat} {e t : Addr} {msg : Str} {tk' : Tok} {vs : Array Value} {o : Obj} (k : ∀ b o, s.heap.get? b = some o → h'.get? b = some o) (new : s.heap.get? e = none) (he : h'.get? e = some o) (hc : o.cls = .type X) (hd : o.data = .fields vs) (h0 : vs[0]? = some (.ref t)) (h1 : vs[1]? = some .none) (h2 : vs[2]? = some .none)
    (ht : h'.TupAt t [.str msg tk']) : Exc base X msg .new s { s with heap := h', toks := tk } e :=
  ⟨.heap k, new, t, tk', ⟨o, vs, he, hc, hd, h0, h1, h2⟩, ht⟩
theorem raise_made {msg : String} {Q : α → Shared → Prop} (hh : A.handled = none) (h : ∀ s' e, Exc base "TypeError" msg .new s s' e → E (.ref e) s') (hm : (msg : Str).length ≤ sizeLine := by size_fits) : wpAny M A (raiseErrorMade "TypeError" msg : Sem α) Q E s := by
  unfold raiseErrorMade
  refine wpAny_bind (wpAny_mkStr (wpAny_bind ?_) hm)
  unfold newExc newTuple
  refine wpAny_bind (wpAny_newObj_type ?_)
  refine wpAny_bind (m := firstArgMember _ _) (wpAny_of_eq (a := Value.none) (by simp only [firstArgMember, typeError_no_first]; rfl) ?_)
  rw [ownMembersOf_TypeError]
  refine wpAny_newObj_type ?_
  unfold raiseNew
  refine wpAny_bind (wpAny_handled ?_)
  rw [hh]
  first
    | refine wpAny_throw ?_
    | refine wpAny_bind (wpAny_pure (wpAny_throw ?_))
  refine h _ _ (Exc.made (t := s.heap.objs.size) (fun b o hb => Heap.get?_push_of_some _ (Heap.get?_push_of_some _ hb)) (Heap.get?_none_of_le (by simp)) (Heap.get?_push_size _ rfl) rfl rfl (by simp) (by simp) (by simp) ⟨_, _, Heap.get?_push_of_some _ (Heap.get?_push_size _ rfl), rfl, rfl⟩)
theorem sub_te_te : isSubtype (.type "TypeError") (.type "TypeError") = pure true := by rw [isSubtype_type]; kernel_rfl
theorem Exc.typeIs {way : Way} {msg : Str} {s' : Shared} {e : Addr} (x : Exc base X msg way s s' e) : s'.TypeIs (.ref e) X := by
  obtain ⟨st, new, t, tk, it, tup⟩ := x
  cases way with
  | new => obtain ⟨oe, vs, he, hc, _⟩ := it; exact ⟨oe, he, hc⟩
  | fly => obtain ⟨oe, vs, T, oT, ts, he, hc, _⟩ := it; exact ⟨oe, he, hc⟩
  | «at» L => obtain ⟨oe, vs, T, oT, ts, he, hc, _⟩ := it; exact ⟨oe, he, hc⟩
end
theorem shown_none : shownName "NoneType" = "NoneType" := by unfold shownName; decide +kernel
theorem shown_int : shownName "int" = "int" := by unfold shownName; decide +kernel
theorem shown_str : shownName "str" = "str" := by unfold shownName; decide +kernel
section
variable {G : Gr} {n : Nat}
end
end Mine
end
section
open PySem PySem.W PyProof.Rows PySem.Calls
set_option maxRecDepth 100000
namespace Mine
theorem owner_bytes : Manifest.owners.lookup (String.ofList ['s', 'e', 't', 'y', 'b'].reverse) = some Manifest.sig_bytes := by kernel_rfl
theorem lk_str_buffer : typeLookup (.type "str") "__buffer__" = pure none := by rw [typeLookup_type, builtinLookup_eq_fast]; kernel_rfl
section
variable {M : Model} {A : Around} {E : Value → Shared → Prop} {s : Shared} {base : Heap}
theorem buffer_str {id : String} {x : Str} {t : Tok} {Q : Option (Array UInt8) → Shared → Prop} (h : Q none s) : wpAny M A (Builtin.Bytes.buffer? id (.str x t)) Q E s := by
  have hT : s.TypeIs (.str x t) "str" := rfl
  unfold Builtin.Bytes.buffer?
  refine wpAny_bind (wpAny_specialOf hT lk_str_buffer ?_)
  refine wpAny_bind (wpAny_specialOf hT lk_str_buffer ?_)
  exact wpAny_pure h
end
section
variable {G : Gr} {n : Nat}
end
end Mine
end
section
open PySem PySem.W PyProof.Rows PySem.Calls
set_option maxRecDepth 100000
namespace Mine
section
variable {G : Gr} {n : Nat} {env : Env} {σ : St} {sc : Scope}
theorem Ev.bytes {b : List UInt8} {k : Nat} {p : Pos} : Ev G n env σ (.Constant (.bytes b) k p) (.bytes b.toArray) := fun _ _ s _ _ _ _ =>
  (fun Γ p' hΓ => (⟨.tok, .bytes _ _⟩ : Stp G.base s { s with toks := s.toks + 1 } ∧ Rep _ _ (.bytes b.toArray s.toks) (.bytes b.toArray)))
end
end Mine
end
section
open PySem PySem.W PyProof.Rows PySem.Calls
set_option maxRecDepth 100000
namespace Mine
section
variable {p : Program} {loose : List Str} {mean : ExcName → Option Value} {mg mb : Str → Option Value} {s₁ : Shared} {prog : Program} {w : World}
/-- the same end for a law that leans on the stack -/
theorem law_finP {c : ClaimW} {cl : Str → Option Addr} {mean' : ExcName → Option Value} {args : List WData} {fa aL : Addr} {vs : List Value} {ns : List Int} {n : Nat} (T : Top p loose mean mg mb s₁.heap) (hL : s₁.heap.IsList aL vs.toArray) (hI : IntsAre vs ns) (hg : s₁.gens = #[])
    (law : CallP (groundOf T prog w) n (.ref fa) [.list (ns.map .int)] (.bool true)) (hn : n ≤ 90) (hr : ∀ cls, c.raises args cls = false) (hp : c.post args (.bool true) args = true) :
    wpAny (model prog w) callerA (call (.ref fa) [.ref aL]) (fun v s' => GoodWG c cl mean' args s₁ (.ok (.ret v)) s') (fun e s' => GoodWG c cl mean' args s₁ (.error e) s') s₁ := by
  have room : Room n callerA := ⟨rfl, by
    have : (callerA.depth + 90 < recursionLimit) := by decide +kernel
    omega, by
    have : (callerA.units + 30 * 90 + 500 < cLine) := by decide +kernel
    omega⟩
  refine wpAny_mono (law (fun _ => True) callerA s₁ _ [.ref aL] [] room (fun _ _ e => e) (fun _ _ => trivial) ⟨rfl, fun _ h => nomatch h⟩ (.cons (.list trivial hL (rep_ints hI)) .nil)) (fun v s' q => ?_) fun _ _ x => x
  obtain ⟨st, r⟩ := q
  cases r
  have base : Heap.StaysIn s₁.heap s'.heap := st.ext.base (fun _ _ e => e)
  exact ⟨.inl ⟨_, _, _, rfl, hr, .bool true, hp, unshared_nil⟩, .of_keep base, st.os, fun x hx => st.gens.bare (fun y hy => by rw [hg] at hy; simp at hy) x hx⟩
end
section
variable {G : Gr} {n : Nat}
theorem CallP.fn1 {d : DefRec} {a : Addr} {d1 r : D} {x : Str} (F : FnAt G d a) (h : ∀ env l, FEnv env d.scope → ExP G n env (HS G.base env l) [(x, .val d1)] d.body fun fl _ => fl = .ret r)
    (hx : d.params.args.map (·.arg) = [x] := by rfl) (hb : ∀ pm code doc v, bindArgs (docDef d.name d.params d.body d.scope pm code doc) ⟨[v], []⟩ = pure [(x, v)] := by intros; rfl)
    (hkind : (d.params.args.all fun y => d.scope.names.lookup y.arg == some .local || d.scope.names.lookup y.arg == some .cell) = true := by rfl)
    (hco : d.scope.isCoroutine = false := by rfl) (hgen : d.scope.isGenerator = false := by rfl) (hk : d.scope.kind = .function := by rfl) : CallP G (n + 1) (.ref a) [d1] r := by
  have hlen : d.params.args.length = 1 := by have := congrArg List.length hx; simpa using this
  refine CallP.def F (by rw [hlen]; rfl) (fun pm code doc vs hv => ?_) hkind (by rw [hx]; simp) (fun env l FE => ?_) hco hgen hk
  · obtain ⟨v, rfl⟩ := List.length_eq_one_iff.mp hv
    rw [hb, hx]; rfl
  · have hz : (d.params.args.map (·.arg)).zip ([d1].map Slot.val) = [(x, .val d1)] := by rw [hx]; rfl
    rw [hz]; exact h env l FE
end
end Mine
end
section
open PySem PySem.W PyProof.Rows PySem.Calls
set_option maxRecDepth 100000
namespace Mine
section
variable {α : Type} {prog : Program} {w : World} {A : Around} {E : Value → Shared → Prop} {s : Shared} {base : Heap}
theorem raise_attr {o : Value} {name : Str} {msg : Str} {Q : α → Shared → Prop} (hh : A.handled = none) (h : ∀ h' tk e t u, Exc base "AttributeError" msg .new s { s with heap := h', toks := tk } e → h'.get? e = some { cls := .type "AttributeError", data := .fields #[.ref t, .none, .none, .none, .bool false, .none, .str name u, o] } → E (.ref e) { s with heap := h', toks := tk }) (hm : msg.length ≤ sizeLine) :
    wpAny (model prog w) A (raiseAttrError o name msg : Sem α) Q E s := by
  unfold raiseAttrError
  refine wpAny_bind (wpAny_mkStr (wpAny_bind ?_) hm)
  unfold newExc newTuple
  refine wpAny_bind (wpAny_newObj_type ?_ (by size_fits))
  refine wpAny_bind (m := firstArgMember _ _) (wpAny_of_eq (a := Value.none) (by simp only [firstArgMember, attrError_no_first]; rfl) ?_)
  rw [ownMembersOf_AttributeError]
  refine wpAny_newObj_type ?_ (by size_fits)
  obtain ⟨hp, g, d, tk, os⟩ := s
  have f1 := sub_AttributeError
  repeat (any_goals (first | assumption | wp_step))
  unfold raiseNew
  refine wpAny_bind (wpAny_handled ?_)
  rw [hh]
  first
    | refine wpAny_throw ?_
    | refine wpAny_bind (wpAny_pure (wpAny_throw ?_))
  dsimp only
  have ht0 : (hp.push { cls := .type "tuple", data := .seq [Value.str msg tk].toArray }).get? hp.objs.size = some { cls := .type "tuple", data := .seq [Value.str msg tk].toArray } := Heap.get?_push_size _ rfl
  refine h _ _ _ hp.objs.size _ (Exc.made (s := ⟨hp, g, d, tk, os⟩) (t := hp.objs.size) (fun b ob hb => ?_) (Heap.get?_none_of_le (by simp)) (Heap.get?_update_self _ (Heap.get?_push_size _ rfl) rfl) rfl rfl (by simp) (by simp) (by simp) (tk' := tk) ⟨{ cls := .type "tuple", data := .seq [Value.str msg tk].toArray }, 0, ?_, rfl, rfl⟩) (Heap.get?_update_self _ (Heap.get?_push_size _ rfl) rfl)
  · have hlt : b < hp.objs.size := Heap.lt_size hb
    refine (Heap.get?_update_other _ _ ?_).trans (Heap.get?_push_of_some _ (Heap.get?_push_of_some _ hb))
    simp only [Heap.size_push]
    exact Nat.ne_of_gt (Nat.lt_succ_of_lt hlt)
  · refine (Heap.get?_update_other _ _ ?_).trans (Heap.get?_push_of_some _ ht0)
    simp only [Heap.size_push]
    exact Nat.succ_ne_self _
end
end Mine
end
section
open PySem PySem.W PyProof.Rows PySem.Calls
set_option maxRecDepth 100000
namespace Mine
def attrWords (T : String) (name : Str) : Str := Str.ofString ("'" ++ T ++ "' object has no attribute '") ++ name ++ Str.ofString "'"
/-- what is to be known of a type for a miss -/
structure MissF (T ga : String) (name : Str) : Prop where
  slot : PySem.Slot T "__getattribute__" ga
  canon : Manifest.canonical ga = "object.__getattribute__"
  entry : entryFor table ga = some Builtin.«object.__getattribute__»
  args : ∀ a b : Value, argsOk ga ⟨[a, b], []⟩
  hook : typeLookup (.type T) "__getattr__" = pure none
  miss : typeLookup (.type T) name = pure none
  shown : shownName T = T
  fn : (Value.type T == Value.type "builtin_function_or_method") = false
  mod : (Value.type T == Value.type "module") = false
  typ : (Value.type T == Value.type "type") = false
section
variable {prog : Program} {w : World} {A : Around} {E : Value → Shared → Prop} {s : Shared} {base : Heap}
theorem miss {v : Value} {T ga : String} {name : Str} {pl : Sem Bool} {Q : Value × List Value → Shared → Prop} (F : MissF T ga name) (hT : ∀ tk, ({ s with toks := tk } : Shared).TypeIs v T)
    (hown : ∀ (tk : Nat) (A : Around) (Q : Option Value → Shared → Prop) (E : Value → Shared → Prop), Q none { s with toks := tk } → wpAny (model prog w) A (Builtin.ObjectAttr.inOwnDict name v) Q E { s with toks := tk })
    (hg : ∀ (tk : Nat) (A : Around) (Q : Unit → Shared → Prop) (E : Value → Shared → Prop), Q () { s with toks := tk } → wpAny (model prog w) A (Builtin.ObjectAttr.copiedAttributeGuard name v) Q E { s with toks := tk })
    (hz : (attrWords T name).length ≤ sizeLine) (hh : A.handled = none)
    (h : ∀ s' e, Exc base "AttributeError" (attrWords T name) .new s s' e → E (.ref e) s') : wpAny (model prog w) A (getMethod v name pl) Q E s := by
  have hT0 : s.TypeIs v T := hT s.toks
  unfold getMethod
  refine wpAny_bind (wpAny_specialOf hT0 F.slot.lookup ?_)
  dsimp only
  rw [if_neg (by rw [F.canon]; decide)]
  refine wpAny_bind (wpAny_specialOf hT0 F.hook ?_)
  rw [if_neg (by decide)]
  refine wpAny_bind (wpAny_specialOf hT0 F.miss ?_)
  dsimp only
  refine wpAny_bind ?_
  unfold getAttr
  refine wpAny_bind (wpAny_mkText ?_)
  unfold getAttrBy
  refine wpAny_holding (wpAny_bind (wpAny_typeOf (hT _) (wpAny_bind (wpAny_of_eq F.slot.lookup ?_))))
  dsimp only
  rw [if_neg (by simp [onTheHeap])]
  unfold getAttrByItsOwn
  refine wpAny_bind (wpAny_of_eq (a := none) (by simp [hookBefore, onTheHeap]) ?_)
  refine wpAny_bind (wpAny_attempt (wpAny_holding ?_))
  unfold callGetattribute
  rw [if_neg (by simp)]
  unfold boundAndCalled
  refine wpAny_bind (wpAny_of_eq (F.slot.bind v) ?_)
  refine wpAny_call_entry F.slot (hT _) F.entry ?_ (F.args _ _)
  unfold Builtin.«object.__getattribute__»
  refine wpAny_bind (wpAny_of_eq (a := (v, [Value.str name s.toks])) rfl ?_)
  dsimp only
  refine wpAny_bind (wpAny_of_eq (a := name) rfl ?_)
  refine wpAny_bind (wpAny_typeOf (hT _) ?_)
  unfold Builtin.ObjectAttr.find
  refine wpAny_bind (wpAny_bind (wpAny_of_eq F.miss (wpAny_bind (wpAny_of_eq (a := none) rfl (wpAny_bind (wpAny_of_eq (a := none) rfl ?_))))))
  dsimp only
  unfold Builtin.ObjectAttr.ownThenClass
  refine wpAny_bind (hown _ _ _ _ ?_)
  dsimp only
  refine wpAny_bind (hg _ _ _ _ ?_)
  refine wpAny_bind (wpAny_rule (wpAny_pure ?_))
  dsimp only
  rw [if_neg (by rw [F.mod]; decide), if_neg (by rw [F.typ]; decide)]
  unfold Builtin.ObjectAttr.noSuchAttribute
  unfold typeNameOfCut shownTypeOf
  refine wpAny_bind (wpAny_bind (wpAny_bind (wpAny_typeOf (hT _) ?_)))
  rw [if_neg (by rw [F.fn]; decide)]
  refine wpAny_pure ?_
  refine wpAny_of_eq (a := shownName T) rfl ?_
  rw [F.shown]
  have hmsg : (Str.ofString (toString "'" ++ toString T ++ toString "' object has no attribute '") ++ name ++ Str.ofString "'") = attrWords T name := rfl
  rw [hmsg]
  refine raise_attr (base := base) (o := v) (name := name) hh (fun h' tk e t u ex he => ?_) hz
  unfold getattributeRaised
  have hTe : ({ s with heap := h', toks := tk } : Shared).TypeIs (.ref e) "AttributeError" := ⟨_, he, rfl⟩
  refine wpAny_bind (wpAny_isInstance hTe sub_AttributeError ?_)
  rw [if_pos rfl]
  refine wpAny_bind (wpAny_of_eq (a := none) (by simp only [hookBehind, onTheHeap]; exact F.hook) ?_)
  unfold hookOrError attributeErrorLeaves
  dsimp only
  rw [if_neg (by decide), if_neg (by decide)]
  unfold noteAttr
  refine wpAny_bind (wpAny_bind ?_)
  unfold lacksNameAndObj
  refine wpAny_bind (wpAny_isInstance hTe sub_AttributeError ?_)
  rw [if_neg (by decide)]
  refine wpAny_bind (wpAny_load he ?_)
  refine wpAny_pure ?_
  refine wpAny_pure (wpAny_throw ?_)
  exact h _ _ (ex.of_stp .tok)
end
theorem missNone {name : Str} (hm : typeLookup (.type "NoneType") name = pure none) : MissF "NoneType" "object.__getattribute__" name :=
  ⟨PySem.F.slot_NoneType_getattribute, by decide +kernel, PySem.F.entry_object_getattribute, PySem.F.args_object_getattribute_2, am_none_getattr_none, hm, shown_none, by decide, by decide, by decide⟩
theorem missInt {name : Str} (hm : typeLookup (.type "int") name = pure none) : MissF "int" "int.__getattribute__" name :=
  ⟨PySem.F.slot_int_getattribute, by decide +kernel, am_entry_int_getattribute, PySem.F.args_int_getattribute_2, by rw [typeLookup_type, builtinLookup_eq_fast]; kernel_rfl, hm, shown_int, by decide, by decide, by decide⟩
theorem missList {name : Str} (hm : typeLookup (.type "list") name = pure none) : MissF "list" "list.__getattribute__" name :=
  ⟨PySem.F.slot_list_getattribute, by decide +kernel, am_entry_list_getattribute, PySem.F.args_list_getattribute_2, am_list_getattr_none, hm, by unfold shownName; decide +kernel, by decide, by decide, by decide⟩
theorem missTuple {name : Str} (hm : typeLookup (.type "tuple") name = pure none) : MissF "tuple" "tuple.__getattribute__" name :=
  ⟨PySem.F.slot_tuple_getattribute, by decide +kernel, am_entry_tuple_getattribute, PySem.F.args_tuple_getattribute_2, am_tuple_getattr_none, hm, by unfold shownName; decide +kernel, by decide, by decide, by decide⟩
theorem missDict {name : Str} (hm : typeLookup (.type "dict") name = pure none) : MissF "dict" "dict.__getattribute__" name :=
  ⟨PySem.F.slot_dict_getattribute, by decide +kernel, am_entry_dict_getattribute, PySem.F.args_dict_getattribute_2, am_dict_getattr_none, hm, by unfold shownName; decide +kernel, by decide, by decide, by decide⟩
theorem lk_none_split : typeLookup (.type "NoneType") "split" = pure none := by rw [typeLookup_type, builtinLookup_eq_fast]; kernel_rfl
theorem lk_int_split : typeLookup (.type "int") "split" = pure none := by rw [typeLookup_type, builtinLookup_eq_fast]; kernel_rfl
theorem lk_list_split : typeLookup (.type "list") "split" = pure none := by rw [typeLookup_type, builtinLookup_eq_fast]; kernel_rfl
theorem lk_tuple_split : typeLookup (.type "tuple") "split" = pure none := by rw [typeLookup_type, builtinLookup_eq_fast]; kernel_rfl
theorem lk_dict_split : typeLookup (.type "dict") "split" = pure none := by rw [typeLookup_type, builtinLookup_eq_fast]; kernel_rfl
section
variable {prog : Program} {w : World} {A : Around} {E : Value → Shared → Prop} {s : Shared} {base : Heap}
/-- an object without a namespace of its own -/
theorem own_none {name : Str} {a : Addr} {T : String} {dat : Data} {sl : Array (Option Value)} {Q : Option Value → Shared → Prop} (he : s.heap.get? a = some { cls := .type T, dict := none, data := dat, slots := sl }) (hdat : ∀ c, dat ≠ .cls c) (h : Q none s) : wpAny (model prog w) A (Builtin.ObjectAttr.inOwnDict name (.ref a)) Q E s := by
  obtain ⟨hp, g, d, tk, os⟩ := s
  show wpAny _ _ (do let x ← Builtin.ObjectAttr.ownDict a; Builtin.ObjectAttr.inDict name x) _ _ _
  unfold Builtin.ObjectAttr.ownDict loadHead
  refine wpAny_bind (wpAny_bind (wpAny_loadPart_at he ?_))
  have : wpAny (model prog w) A (instanceDict a false) (fun x s' => x = none ∧ s' = ⟨hp, g, d, tk, os⟩) E ⟨hp, g, d, tk, os⟩ := by
    unfold instanceDict
    refine wpAny_bind (wpAny_loadPart_at he ?_)
    exact wpAny_pure ⟨rfl, rfl⟩
  cases dat with
  | cls c => exact absurd rfl (hdat c)
  | _ => exact wpAny_mono this (fun x s' z => by obtain ⟨rfl, rfl⟩ := z; exact wpAny_pure h) fun _ _ x => x
theorem guard_none {name : Str} {v : Value} {Q : Unit → Shared → Prop} (hname : (["__module__", "__name__", "__qualname__", "__doc__", "__annotations__"] : List Str).contains name = false) (h : Q () s) : wpAny (model prog w) A (Builtin.ObjectAttr.copiedAttributeGuard name v) Q E s := by
  cases v with
  | ref a =>
    show wpAny _ _ (if _ then _ else _) _ _ _
    rw [if_neg (by rw [hname]; decide)]
    exact wpAny_pure h
  | _ => exact wpAny_pure h
theorem split_name : (["__module__", "__name__", "__qualname__", "__doc__", "__annotations__"] : List Str).contains "split" = false := by decide
end
end Mine
end
section
open PySem PySem.W PyProof.Rows PySem.Calls
set_option maxRecDepth 100000
namespace Mine
theorem slot_bytes_split : PySem.Slot "bytes" "split" "bytes.split" :=
  .of (owner := "bytes") (n := "split") (by rw [typeLookup_type, builtinLookup_eq_fast]; kernel_rfl) (by decide +kernel) (by decide +kernel) (by decide +kernel)
    (by first | exact .inl (by decide +kernel) | exact .inr (by decide +kernel)) (by rw [isSubtype_type]; kernel_rfl)
theorem type_bytes_split : typeOf (.builtin "bytes.split") = pure (.type "method_descriptor") := by show builtinType _ = _; rw [builtinType_eq_fast]; kernel_rfl
theorem entry_bytes_split : entryFor table "bytes.split" = some Builtin.«bytes.split» := entryFor_of_tree (by kernel_rfl)
theorem args_bytes_split (a b c : Value) : argsOk "bytes.split" ⟨[a, b, c], []⟩ := by
  unfold argsOk; rw [signature?_of (id := "bytes.split") (n := ['t', 'i', 'l', 'p', 's']) (o := ['s', 'e', 't', 'y', 'b']) (by kernel_rfl) owner_bytes]; kernel_rfl
section
variable {G : Gr} {n : Nat}
theorem CallX.bytes_split {b : Array UInt8} {x : Str} {m : Int} (h0 : 0 ≤ m) (h1 : m < 2 ^ 62) : CallX G n (.builtin "bytes.split") [.bytes b, .str x, .int m] "TypeError" "a bytes-like object is required, not 'str'" := fun ok A s vs l r k f K rs => by
  cases rs with
  | cons ra rs => cases rs with
    | cons rb rs => cases rs with
      | cons rc rs =>
        cases rs; cases ra; cases rb; cases rc
        rename_i t1 t2 t3
        refine wpAny_call_entry slot_bytes_split rfl entry_bytes_split ?_ (args_bytes_split _ _ _)
        unfold Builtin.«bytes.split» Builtin.Bytes.splitM
        refine wpAny_bind (wpAny_of_eq (a := [some (Value.str x t2), some (Value.int m t3)]) rfl ?_)
        dsimp only
        unfold Builtin.Bytes.countArg
        refine wpAny_bind (wpAny_bind (wpAny_of_eq (a := m) rfl ?_))
        rw [if_neg (by
          have : Builtin.Bytes.fitsIndex m = true := by unfold Builtin.Bytes.fitsIndex; simp; omega
          rw [this]; decide)]
        refine wpAny_pure ?_
        unfold Builtin.Bytes.payload Builtin.Bytes.payload?
        refine wpAny_bind (wpAny_bind (wpAny_pure (wpAny_pure ?_)))
        unfold Builtin.Bytes.bytesLike
        refine wpAny_bind (wpAny_bind (buffer_str ?_))
        dsimp only
        refine wpAny_bind (wpAny_rule (wpAny_bind (wpAny_typeNameOf' (T := "str") rfl (by decide) ?_)))
        rw [shown_str]
        exact raise_made (base := G.base) r.handled fun s' e x => ⟨e, .new, rfl, .inl rfl, x⟩
theorem MethD.bytes_split {b : Array UInt8} : MethD G n (.bytes b) "split" (.builtin "bytes.split") := fun ok A s E v pl r k f rp => by
  cases rp
  exact getMethod_builtin (T := "bytes") rfl ⟨⟨"bytes.__getattribute__", by rw [typeLookup_type, builtinLookup_eq_fast]; kernel_rfl, by decide +kernel⟩, by rw [typeLookup_type, builtinLookup_eq_fast]; kernel_rfl⟩ slot_bytes_split type_bytes_split (fun _ e => nomatch e) ⟨.refl, rfl⟩
/-- the method's look-up raises -/
def MethX (G : Gr) (n : Nat) (H : Around → Heap → Prop) (d : D) (name : Str) (X : String) (msg : Str) : Prop := ∀ ok A s v pl, H A s.heap → Room n A → G.base.StaysIn s.heap → FreshOk ok s.heap → Rep ok s.heap v d →
  wpAny G.M A (getMethod v name pl) (fun _ _ => False) (RX G X msg s) s
section
variable {env : Env} {σ : St} {fp : Addr → Prop} {H : Around → Heap → Prop} {X : String} {msg : Str}
theorem EvX.methM {o : Expr} {name : Str} {apos pos : Pos} {es : List Expr} {dv : D} (R : Rd G.base env fp H) (ho : Ev G n env σ o dv) (hm : MethX G n H dv name X msg)
    {pl : Sem Bool} (he : eval (.Call (.Attribute o name apos) es [] pos) env = (do
      let ov ← eval o env
      standAt apos.atName
      let (f, first) ← holding [ov] (getMethod ov name pl)
      callWith pos f first (backTo pos (starEach es env)) []) := by rfl) : EvX G n env H σ (.Call (.Attribute o name apos) es [] pos) X msg := fun ok A s q r k i =>
  MethodCall_ (wpAny_mono (ho ok A s _ r k i) (fun v s₁ p₁ => wpAny_mono (hm _ A s₁ v pl (R.ext p₁.1.ext q) r (p₁.1.ext.base k) (i.ext p₁.1.ext).freshO p₁.2) (fun _ _ z => z.elim) fun _ _ z => z.of_stp p₁.1) fun _ _ x => x) he
theorem EvX.meth {o : Expr} {name : Str} {apos pos : Pos} {es : List Expr} {f : Value} {dv : D} {ds : List D} (R : Rd G.base env fp H) (T : Tells G env H) (ho : Ev G n env σ o dv) (hm : MethD G n dv name f) (c : Callee G f) (ha : EvL G n env σ es ds) (hc : CallX G n f (dv :: ds) X msg)
    (hns : noStar es = true := by rfl) (hplain : (backTo pos (starEach es env)).any (·.1) = false := by rfl)
    {pl : Sem Bool} (he : eval (.Call (.Attribute o name apos) es [] pos) env = (do
      let ov ← eval o env
      standAt apos.atName
      let (f, first) ← holding [ov] (getMethod ov name pl)
      callWith pos f first (backTo pos (starEach es env)) []) := by rfl) : EvX G n env H σ (.Call (.Attribute o name apos) es [] pos) X msg := fun ok A s q r k i =>
  MethodCall_ (wpAny_mono (ho ok A s _ r k i) (fun v s₁ p₁ => wpAny_mono (hm _ A s₁ _ v pl r (p₁.1.ext.base k) (i.ext p₁.1.ext).freshO p₁.2) (fun ff s₂ p₂ => by
    obtain ⟨st₂, rfl⟩ := p₂
    have st' := p₁.1.trans st₂
    refine callWith_callee c hplain (wpAny_mono (ha ok A s₂ _ pos r (st'.ext.base k) (i.ext st'.ext)) (fun vs s₃ p₃ => ⟨p₃.1.ext.base (st'.ext.base k), ?_⟩) fun _ _ x => x) hns
    have st'' := st'.trans p₃.1
    obtain ⟨l, K⟩ := T ok A _ σ (R.ext st''.ext q) (i.ext st''.ext)
    exact wpAny_mono (hc _ A s₃ _ _ r (st''.ext.base k) (i.ext st''.ext).freshO K (.cons ((p₁.2.stp st₂).stp p₃.1) p₃.2)) (fun _ _ z => z.elim) fun _ _ z => z.of_stp st'') fun _ _ x => x) fun _ _ x => x) he
end
end
end Mine
end
section
open PySem PySem.W PyProof.Rows PySem.Calls
set_option maxRecDepth 100000
namespace Mine
section
variable {G : Gr} {n : Nat} {env : Env} {σ : St} {l : List Env} {X : String} {msg : Str}
/-- the handlers of a try take an exception: they give d back -/
def Hand (G : Gr) (n : Nat) (env : Env) (l : List Env) (σ : St) (X : String) (msg : Str) (hs : List ExceptHandler) (d : D) : Prop := ∀ ok A s s' e E, HS G.base env l A s.heap → Room n A → G.base.StaysIn s.heap → Inv G.base ok env σ s.heap → Exc G.base X msg .fly s s' e →
  wpAny G.M A (handleBy (.ref e) env hs) (fun f s'' => ∃ v, f = .ret v ∧ Rep ok s''.heap v d ∧ Mv G.base (FrW env) s s'' ∧ Frame env s''.heap) E s'
/-- what an exception says, where it is handled -/
def Says (h : Heap) (e : Addr) (X : String) (msg : Str) : Prop := ∃ t tk, h.ExcAt e X (.ref t) ∧ h.TupAt t [.str msg tk]
theorem Exc.says {base : Heap} {s s' : Shared} {e : Addr} {way : Way} (x : Exc base X msg way s s' e) : Says s'.heap e X msg := by
  obtain ⟨st, new, t, tk, it, tup⟩ := x
  refine ⟨t, tk, ?_, tup⟩
  cases way with
  | new => obtain ⟨oe, vs, he, hc, hd, h0, _⟩ := it; exact ⟨oe, vs, he, hc, hd, h0⟩
  | fly => obtain ⟨oe, vs, T, oT, ts, he, hc, hd, h0, _⟩ := it; exact ⟨oe, vs, he, hc, hd, h0⟩
  | «at» L => obtain ⟨oe, vs, T, oT, ts, he, hc, hd, h0, _⟩ := it; exact ⟨oe, vs, he, hc, hd, h0⟩
/-- an expression of a handler -/
def EvH (G : Gr) (env : Env) (nm : Str) (X : String) (msg : Str) (e2 : Expr) (d : D) : Prop := ∀ A s E e, A.units + 500 < cLine → Frame env s.heap → G.base.StaysIn s.heap → Holds env s.heap nm (.ref e) → Says s.heap e X msg →
  wpAny G.M A (eval e2 env) (fun v s' => (∀ b o, s.heap.get? b = some o → s'.heap.get? b = some o) ∧ s'.os = s.os ∧ s'.gens = s.gens ∧ ∀ ok, FreshOk ok s.heap → Rep ok s'.heap v d) E s
theorem Hand.skip {T : String} {x : Str} {nm : Option Str} {np pos : Pos} {b₀ : Stmt} {suite : List Stmt} {rest : List ExceptHandler} {d : D} (hx : env.kindOf x = some .globalImplicit) (hg : G.mg x = none) (hv : bootBuiltins x = some (.type T)) (hnm : ∃ y, nm = some y)
    (hexc : isSubtype (.type T) (.type "BaseException") = pure true) (hnt : isSubtype (.type ((Manifest.find? T).elim "type" fun x => x.metatype)) (.type "tuple") = pure false) (hsub : isSubtype (.type X) (.type T) = pure false) (h : Hand G n env l σ X msg rest d)
    (hn : x ≠ "__name__" := by decide) (hd : (x == ("__debug__" : Str)) = false := by decide) : Hand G n env l σ X msg (.ExceptHandler (some (.Name x np)) nm (b₀ :: suite) pos :: rest) d := fun ok A s s' e E hS r k i ex => by
  obtain ⟨y, rfl⟩ := hnm
  have k' := ex.stp.ext.base k
  have F' := i.frame.ext ex.stp.ext
  refine wpAny_handleBy_builtin_as (X := X) (T := T) (b := false) hexc hnt hsub ?_
  refine Name_function_global F'.kind hx (loadGlobal_builtin (by rw [F'.glob]; exact G.g.keeps k') hg (by rw [F'.blt]; exact G.b.keeps k') ((G.bb x hn).trans hv) ⟨rfl, ex.typeIs, ?_⟩) hd
  rw [if_neg (by decide)]
  exact h ok A s s' e E hS r k i ex
theorem Hand.take {T : String} {x nm : Str} {np pos p2 : Pos} {e2 : Expr} {rest : List ExceptHandler} {d : D} (hx : env.kindOf x = some .globalImplicit) (hg : G.mg x = none) (hv : bootBuiltins x = some (.type T)) (hnm : env.kindOf nm = some .local)
    (hexc : isSubtype (.type T) (.type "BaseException") = pure true) (hnt : isSubtype (.type ((Manifest.find? T).elim "type" fun x => x.metatype)) (.type "tuple") = pure false) (hsub : isSubtype (.type X) (.type T) = pure true) (h : EvH G env nm X msg e2 d)
    (hn : x ≠ "__name__" := by decide) (hd : (x == ("__debug__" : Str)) = false := by decide) : Hand G n env l σ X msg (.ExceptHandler (some (.Name x np)) (some nm) [.Return (some e2) p2] pos :: rest) d := fun ok A s s' e E hS r k i ex => by
  have k' := ex.stp.ext.base k
  have F' := i.frame.ext ex.stp.ext
  refine wpAny_handleBy_builtin_as (X := X) (T := T) (b := true) hexc hnt hsub ?_
  refine Name_function_global F'.kind hx (loadGlobal_builtin (by rw [F'.glob]; exact G.g.keeps k') hg (by rw [F'.blt]; exact G.b.keeps k') ((G.bb x hn).trans hv) ⟨rfl, ex.typeIs, ?_⟩) hd
  rw [if_pos rfl]
  refine ex.land (by simp) fun s₁ ex₁ => ?_
  have st1 := ex₁.stp
  have F1 := i.frame.ext st1.ext
  have i1 := i.ext st1.ext
  refine wpAny_store (base := G.base) F1 (.inl hnm) fun s₂ hv₂ ho₂ F₂ m₂ => ?_
  have m02 : Mv G.base (FrW env) s s₂ := (st1.mv (W := FrW env)).trans m₂ fun _ w => .inl w
  have k2 : G.base.StaysIn s₂.heap := m02.base k fun b w => i.off b (.inl w)
  have says : Says s₂.heap e X msg := by
    obtain ⟨t, tk, ⟨o, vs, q1, q2, q3, q4⟩, ⟨ot, nt, w1, w2, w3⟩⟩ := ex₁.says
    have nfe : ¬ FrW env e := fun w => by
      rcases w with w | ⟨y, w⟩
      · obtain ⟨m, o2, es, ep, z, zd, _⟩ := F1.ns; rw [← w, q1] at z; cases z; rw [q3] at zd; cases zd
      · obtain ⟨u, o2, z, zd⟩ := F1.cells y _ w; rw [q1] at z; cases z; rw [q3] at zd; cases zd
    have nft : ¬ FrW env t := node_not_frame F1 (.tup ⟨ot, w1, w2, nt, w3⟩)
    obtain ⟨o', z1, z2, z3, _⟩ := m₂.ext e o nfe q1
    obtain ⟨ot', y1, y2, y3, _⟩ := m₂.ext t ot nft w1
    exact ⟨t, tk, ⟨o', vs, z1, z2.trans q2, z3.trans q3, q4⟩, ⟨ot', nt, y1, y2.trans w2, y3.trans w3⟩⟩
  refine wpAny_execs_cons (wpAny_Return_some (wpAny_mono (h (A.mark (some (.ref e))) s₂ (fun _ _ => False) e (by have := r.units; show A.units + 500 < cLine; omega) F₂ k2 hv₂ says) (fun v s₃ z => ?_) fun _ _ x => x.elim))
  obtain ⟨kp, os3, g3, rep⟩ := z
  have st3 : Stp G.base s₂ s₃ := ⟨.of_stays kp, os3, by rw [g3]; exact .refl⟩
  have F3 := F₂.ext st3.ext
  obtain ⟨m3, hns3⟩ := F3.ns
  refine wpAny_nameGoes hnm hns3 (by rw [F3.kind]; rfl) fun h' m' hns' hs' => ?_
  have m4 : Mv G.base (FrW env) s₃ { s₃ with heap := h', toks := s₃.toks + 1 } := by
    refine ⟨fun b o w q => ⟨o, (hs'.2 b fun z => w (.inl z)).trans q, rfl, rfl, fun _ => rfl⟩, fun b q => ?_, rfl, .refl⟩
    by_cases z : b = env.locals
    · obtain ⟨o, _, _, q', _⟩ := hns'
      have q2 : h'.get? b = none := q
      rw [z, q'] at q2; cases q2
    · rw [← hs'.2 b z]; exact q
  refine ⟨v, rfl, ?_, (m02.trans (st3.mv (W := FrW env)) fun _ w => .inl w).trans m4 fun _ w => .inl w, ?_⟩
  · have := rep ok fun b q => i.fresh b (m02.dom b q)
    exact this.extBut m4.ext (fun b _ nd => node_not_frame F3 nd) fun _ q _ => q
  · exact ⟨F3.kind, ⟨m', hns'⟩, fun y c lc => let ⟨u, q⟩ := F3.cells y c lc; ⟨u, q.sameBut hs' (F3.away y c lc)⟩, F3.apart, F3.away, F3.glob, F3.blt⟩
/-- try: return e except ..: the return raises -/
theorem ExP1.tryRet {e : Expr} {p0 pos : Pos} {h₀ : ExceptHandler} {hs : List ExceptHandler} {d : D} {Q : Fl → St → Prop} (he : EvX G n env (HS G.base env l) σ e X msg) (hh : Hand G n env l σ X msg (h₀ :: hs) d) (hq : Q (.ret d) []) : ExP1 G n env (HS G.base env l) σ (.Try [.Return (some e) p0] (h₀ :: hs) [] [] pos) Q := fun ok A s E hS r k i => by
  refine wpAny_Try_except (wpAny_execs_cons (wpAny_Return_some (wpAny_mono (he ok A s hS r k i) (fun _ _ z => z.elim) fun x s' z => ?_)))
  obtain ⟨a, w, rfl, hw, ex⟩ := z
  have K := hS.stk i.frame (i.off _ (.inl (.inl rfl)))
  refine ex.note K hS.2.1 (fun L' z => by rcases hw with hw | hw <;> rw [hw] at z <;> cases z) fun s₁ ex₁ => ex₁.land (by simp) fun s₂ ex₂ => ?_
  refine wpAny_mono (hh ok A s s₂ a E hS r k i ex₂) (fun f s₃ z => ?_) fun _ _ x => x
  obtain ⟨v, rfl, rep, mv, fr⟩ := z
  refine ⟨.ret d, [], hq, rep, ⟨fr, fun b w => i.off b (.inl (w.elim id fun z => nomatch z)), fun b q => i.fresh b (mv.dom b q), fun y d q => (nomatch q), fun y b es q => (nomatch q), fun b w => (nomatch w), by simp [owned]⟩, mv.weak fun b w => .inl w, mv.base k fun b w => i.off b (.inl w), fun b w => nomatch w⟩
end
end Mine
end
section
open PySem PySem.W PyProof.Rows PySem.Calls
set_option maxRecDepth 100000
namespace Mine
section
variable {G : Gr} {n : Nat} {env : Env} {σ : St} {fp : Addr → Prop} {H : Around → Heap → Prop}
theorem ExP.forS {target iter : Expr} {body rest : List Stmt} {pos : Pos} {ds : List D} {f : D → St → St} {Q : Fl → St → Prop} (R : Rd G.base env fp H) (σ₀ : St) (h0 : Sub σ₀ σ) (nd : (σ₀.map (·.1)).Nodup)
    (hi : EvI G n env σ₀ iter target ds) (ht : ∀ d ∈ ds, AssD G n env target d (f d))
    (turn : ∀ (i : Nat) (d : D), ds[i]? = some d → ExP G n env H (f d σ₀) body fun fl σ₂ => match fl with
      | .next | .cont => Sub σ₀ σ₂
      | .brk => ExP G n env H σ₂ rest Q
      | .ret r => Q (.ret r) σ₂)
    (done : ExP G n env H σ₀ rest Q) (hs : ∀ x, foldedSetIterable iter env x = pure x := by intro _; rfl) : ExP G n env H σ (.For target iter body [] pos :: rest) Q := by
  refine ExP.cons R (ExP1.only h0 ?_ nd)
  refine ExP1.for (f := f) R hi ht (fun i σ₁ => σ₁ = σ₀) rfl (fun i d σ₁ hd hJ => ?_) (fun σ₁ hJ => by subst hJ; exact done) hs
  subst hJ
  refine (turn i d hd).post fun fl σ' h => ?_
  cases fl with
  | next => exact .inr ⟨_, h, nd, rfl⟩
  | cont => exact .inr ⟨_, h, nd, rfl⟩
  | brk => exact .inl h
  | ret r => exact .inl h
end
end Mine
end
section
open PySem PySem.W PyProof.Rows PySem.Calls
set_option maxRecDepth 100000
namespace Mine
/-- a class whose texts are told by BaseException.__str__ -/
structure ExcS (X id : String) : Prop where
  str : PySem.Slot X "__str__" id
  entry : entryFor table id = some Builtin.«BaseException.__str__»
  args : ∀ a : Value, argsOk id ⟨[a], []⟩
theorem excS_AttributeError : ExcS "AttributeError" "AttributeError.__str__" where
  str := .of (owner := "AttributeError") (n := "__str__") (by rw [typeLookup_type, builtinLookup_eq_fast]; kernel_rfl) (by decide +kernel) (by decide +kernel) (by decide +kernel)
    (by first | exact .inl (by decide +kernel) | exact .inr (by decide +kernel)) (by rw [isSubtype_type]; kernel_rfl)
  entry := entryFor_alias (id' := "BaseException.__str__") (by rw [fastTable_eq_tree]; kernel_rfl) (by decide +kernel) (by decide +kernel) (by rw [fastTable_eq_tree]; kernel_rfl)
  args _ := by unfold argsOk; kernel_rfl
theorem excS_TypeError : ExcS "TypeError" "BaseException.__str__" := ⟨PySem.F.excStr_TypeError.str, PySem.F.entry_bexc_str, PySem.F.args_bexc_str⟩
section
variable {prog : Program} {w : World} {A : Around} {E : Value → Shared → Prop} {s : Shared} {e t0 : Addr} {X id : String}
theorem call_excS (FX : ExcS X id) {m : Str} {tk : Tok} {Q : Value → Shared → Prop} (x : s.heap.ExcAt e X (.ref t0)) (ht : s.heap.TupAt t0 [.str m tk]) (hq : Q (.str m tk) s) :
    wpAny (model prog w) A (call (.builtin id) [.ref e]) Q E s :=
  wpAny_call_entry FX.str x.typeIs FX.entry (bexcStr_entry_one x ht ⟨_, rfl, hq⟩) (FX.args _)
theorem strOf_excS (FX : ExcS X id) (hu : A.units < cLine) {m : Str} {tk : Tok} {Q : Value → Shared → Prop} (x : s.heap.ExcAt e X (.ref t0)) (ht : s.heap.TupAt t0 [.str m tk]) (hq : Q (.str m tk) s) :
    wpAny (model prog w) A (Builtin.Str.strOf (.ref e)) Q E s := by
  unfold Builtin.Str.strOf
  repeat (first | with_reducible refine wpAny_cRoomFor hu ?_ | with_reducible refine wpAny_callSpecial?_slot x.typeIs FX.str (call_excS FX x ht ?_) | wp_step)
  exact hq
theorem str_of_excS (FX : ExcS X id) (hu : A.units + 2 < cLine) {m : Str} {tk : Tok} {Q : Value → Shared → Prop} (x : s.heap.ExcAt e X (.ref t0)) (ht : s.heap.TupAt t0 [.str m tk]) (h : Q (.str m tk) s) :
    wpAny (model prog w) A (call (.type "str") [.ref e]) Q E s :=
  callType_new PySem.F.called_str (by decide) (PySem.F.typeCall_str_1 _) (PySem.F.newCall_str_1 _) (fun obj => PySem.F.args_object_init_2 obj _) PySem.F.entry_str_new
    (meets_str_new (S := fun A' R s' => A'.units + 1 < cLine ∧ s'.heap.ExcAt e X (.ref t0) ∧ s'.heap.TupAt t0 [.str m tk] ∧ R (.ok (.ret (.str m tk))) s')
      fun _ _ A' _ _ hq => strOf_excS (A := A'.in1) FX hq.1 hq.2.1 hq.2.2.1 hq.2.2.2)
    ⟨(show A.units + 1 + 1 < cLine from hu), x, ht, typeIs_str _ _ _, h⟩
end
section
variable {G : Gr} {n : Nat} {env : Env} {nm : Str} {X : String} {msg : Str}
theorem EvH.str {x : Str} {k : Nat} {p : Pos} : EvH G env nm X msg (.Constant (.str x) k p) (.str x) := fun _ _ _ _ _ _ _ _ _ => Constant_str ⟨fun _ _ e => e, rfl, rfl, fun _ _ => .str _ _⟩
theorem EvH.strOf {N : String} {p p2 pos : Pos} (FX : ExcS X N) (hx : env.kindOf "str" = some .globalImplicit) (hg : G.mg "str" = none) (hv : bootBuiltins "str" = some (.type "str")) (hk : env.scope.kind = .function) (hd : (nm == ("__debug__" : Str)) = false := by decide) (hc : (nm == ("__classdict__" : Str)) = false := by decide) : EvH G env nm X msg (.Call (.Name "str" p) [.Name nm p2] [] pos) (.str msg) := fun A s E e hu F k hh ⟨t, tk, ex, tup⟩ => by
  refine Call_ (Name_function_global F.kind hx (loadGlobal_builtin (by rw [F.glob]; exact G.g.keeps k) hg (by rw [F.blt]; exact G.b.keeps k) ((G.bb "str" (by decide)).trans hv) ?_) (by decide))
  refine callWith_callee (G := G) (.type _) rfl ?_ rfl
  refine args_cons (wpAny_holds hk hh ?_ hd hc) rfl
  refine args_nil ?_
  refine ⟨k, ?_⟩
  obtain ⟨pr, w, hM⟩ : ∃ pr w, G.M = model pr w := ⟨_, _, rfl⟩
  rw [hM]
  exact str_of_excS FX (by omega) ex tup ⟨fun _ _ e => e, rfl, rfl, fun _ _ => .str _ _⟩
theorem addH {A : Around} {s : Shared} {E : Value → Shared → Prop} {ok : Addr → Prop} {va vb : Value} {x y : Str} (h : x.length + y.length ≤ sizeLine) (ra : Rep ok s.heap va (.str x)) (rb : Rep ok s.heap vb (.str y)) : wpAny G.M A (binaryOp .Add va vb) (fun v s' => s'.heap = s.heap ∧ s'.os = s.os ∧ s'.gens = s.gens ∧ Rep ok s'.heap v (.str (x ++ y))) E s := by
  cases ra; cases rb
  refine P.add_str ?_
  have hl : ∀ z : Str, (z.length == 0) = true → z = Str.empty := fun z hz => by
    obtain ⟨⟨l⟩⟩ := z
    cases l with
    | nil => rfl
    | cons a b => cases hz
  split
  · rename_i h0
    rw [hl x h0]
    exact ⟨rfl, rfl, rfl, by rw [show Str.empty ++ y = y from by obtain ⟨⟨l⟩⟩ := y; exact congrArg Str.mk (by simp [Str.empty])]; exact .str _ _⟩
  · split
    · rename_i h0
      rw [hl y h0]
      exact ⟨rfl, rfl, rfl, by rw [show x ++ Str.empty = x from by obtain ⟨⟨l⟩⟩ := x; exact congrArg Str.mk (by simp [Str.empty])]; exact .str _ _⟩
    · exact ⟨by rw [show (x ++ y).length = x.length + y.length from Array.size_append ..]; exact h, rfl, rfl, rfl, .str _ _⟩
theorem EvH.add {a b : Expr} {p : Pos} {x y : Str} (ha : EvH G env nm X msg a (.str x)) (hb : EvH G env nm X msg b (.str y)) (hl : x.length + y.length ≤ sizeLine) : EvH G env nm X msg (.BinOp a .Add b p) (.str (x ++ y)) := fun A s E e hu F k hh hs => by
  refine wpAny_BinOp (wpAny_mono (ha A s E e hu F k hh hs) (fun va s₁ p₁ => ?_) fun _ _ x => x)
  obtain ⟨kp, os1, g1, r1⟩ := p₁
  have x1 : Ext G.base s.heap s₁.heap := .of_stays kp
  have hs1 : Says s₁.heap e X msg := by
    obtain ⟨t, tk, ⟨o, vs, q1, q2, q3, q4⟩, ⟨ot, nt, w1, w2, w3⟩⟩ := hs
    exact ⟨t, tk, ⟨o, vs, kp _ _ q1, q2, q3, q4⟩, ⟨ot, nt, kp _ _ w1, w2, w3⟩⟩
  refine wpAny_mono (hb A s₁ E e hu (F.ext x1) (x1.base k) (hh.ext x1) hs1) (fun vb s₂ p₂ => ?_) fun _ _ x => x
  obtain ⟨kp2, os2, g2, r2⟩ := p₂
  have ra := (r1 (fun _ => True) fun _ _ => trivial).atomic (ok' := fun _ => True) (h' := s₂.heap) rfl
  have rb := r2 (fun _ => True) fun _ _ => trivial
  exact wpAny_mono (addH hl ra rb) (fun v s₃ q => by obtain ⟨e1, e2, e3, e4⟩ := q; exact ⟨fun b o w => by rw [e1]; exact kp2 b o (kp b o w), e2.trans (os2.trans os1), e3.trans (g2.trans g1), fun ok _ => e4.atomic rfl⟩) fun _ _ x => x
end
end Mine
end
section
open PySem PySem.W PyProof.Rows PySem.Calls
set_option maxRecDepth 100000
namespace Mine
/-- more of the heap as ground -/
def Gr.grow (G : Gr) (b : Heap) (k : G.base.StaysIn b) : Gr := { prog := G.prog, w := G.w, base := b, mg := G.mg, mb := G.mb, g := G.g.keeps k, b := G.b.keeps k, bb := G.bb, nolimit := let ⟨m, h, e⟩ := G.nolimit; ⟨m, h.keeps k, e⟩ }
/-- what a frame and the stack below may write -/
def hideL (env : Env) (σ : St) (l : List Env) : List Addr := env.locals :: (env.cells.filterMap (fun p => env.cells.lookup p.1) ++ (owned σ ++ l.filterMap (·.frame)))
theorem hideL_wr {env : Env} {σ : St} {l : List Env} {a : Addr} (w : Wr env σ a) : a ∈ hideL env σ l := by
  unfold hideL
  rcases w with (w | ⟨x, w⟩) | w
  · simp [w]
  · have := mem_of_lookup w
    simp only [List.mem_cons, List.mem_append, List.mem_filterMap]
    exact .inr (.inl ⟨_, this, w⟩)
  · simp [w]
theorem hideL_stk {env : Env} {σ : St} {l : List Env} {e : Env} {L : Addr} (he : e ∈ l) (hf : e.frame = some L) : L ∈ hideL env σ l := by
  unfold hideL
  simp only [List.mem_cons, List.mem_append, List.mem_filterMap]
  exact .inr (.inr (.inr ⟨e, he, hf⟩))
section
variable {G : Gr} {n : Nat} {env : Env} {σ : St} {l : List Env}
theorem FnAt.grow {b : Heap} {k : G.base.StaysIn b} {d : DefRec} {a : Addr} (F : FnAt G d a) : FnAt (G.grow b k) d a := by
  obtain ⟨o, pm, code, doc, h1, h2, h3⟩ := F.obj
  exact ⟨F.name, o, pm, code, doc, k _ _ h1, h2, h3.keeps k⟩
theorem ExtBut.less {base b h h' : Heap} {W : Addr → Prop} (k : base.StaysIn b) (x : ExtBut b W h h') : ExtBut base W h h' := fun a o w e => by
  obtain ⟨o', e', c, d, q⟩ := x a o w e
  refine ⟨o', e', c, d, fun z => q (z.imp (fun z => ?_) id)⟩
  obtain ⟨p, hp⟩ := Option.isSome_iff_exists.mp z
  rw [k _ _ hp]; rfl
theorem off_less {base b : Heap} {a : Addr} (k : base.StaysIn b) (h : b.get? a = none) : base.get? a = none := by
  cases q : base.get? a with
  | none => rfl
  | some o => rw [k _ _ q] at h; cases h
theorem Inv.turn {base b h : Heap} {ok : Addr → Prop} (i : Inv base ok env σ h) (o : ∀ a, Wr env σ a → b.get? a = none) : Inv b ok env σ h := ⟨i.frame, o, i.fresh, i.vals, i.owns, i.there, i.once⟩
theorem After.less {b : Heap} {k : G.base.StaysIn b} {ok : Addr → Prop} {s s' : Shared} {Q : Fl → St → Prop} {f : Flow} (a : After (G.grow b k) env σ ok s Q f s') : After G env σ ok s Q f s' := by
  obtain ⟨fl, σ', q, fi, i, m, kk, o⟩ := a
  exact ⟨fl, σ', q, fi, i.turn fun a w => off_less k (i.off a w), ⟨m.ext.less k, m.dom, m.os, m.gens⟩, fun a o e => kk a o (k a o e), o⟩
end
end Mine
end
section
open PySem PySem.W PyProof.Rows PySem.Calls
set_option maxRecDepth 100000
namespace Mine
/-- an object of a plain class without a namespace of its own -/
def Bare (h : Heap) (a : Addr) (T : String) : Prop := ∃ dat sl, h.get? a = some { cls := .type T, dict := none, data := dat, slots := sl } ∧ ∀ c, dat ≠ .cls c
section
variable {G : Gr} {n : Nat} {env : Env} {σ : St} {l : List Env}
theorem Bare.keeps {h h' : Heap} {a : Addr} {T : String} (p : Bare h a T) (k : ∀ o, h.get? a = some o → h'.get? a = some o) : Bare h' a T := let ⟨dat, sl, e, q⟩ := p; ⟨dat, sl, k _ e, q⟩
theorem OwnL.bare {h : Heap} {a : Addr} {vs : List Value} (o : OwnL h a vs) : Bare h a "list" := let ⟨m, e⟩ := o; ⟨_, _, e, fun c z => nomatch z⟩
theorem hideL_some {A : Around} {h : Heap} {ok : Addr → Prop} {a : Addr} (hS : HS G.base env l A h) (i : Inv G.base ok env σ h) (m : a ∈ hideL env σ l) : (h.get? a).isSome = true := by
  unfold hideL at m
  simp only [List.mem_cons, List.mem_append, List.mem_filterMap] at m
  rcases m with m | ⟨⟨x, y⟩, hm, hl⟩ | m | ⟨e, he, hf⟩
  · obtain ⟨_, o, _, _, e, _⟩ := i.frame.ns; rw [m, e]; rfl
  · obtain ⟨_, o, e, _⟩ := i.frame.cells x a hl; rw [e]; rfl
  · obtain ⟨vs, o⟩ := i.there a m; exact o.some
  · obtain ⟨_, L, m, q1, q2, ⟨o, _, _, e, _⟩, _⟩ := hS.2.2 e he
    rw [q1] at hf; cases hf; rw [e]; rfl
theorem hideL_own {A : Around} {h : Heap} {ok : Addr → Prop} {a : Addr} {vs : List Value} (hS : HS G.base env l A h) (i : Inv G.base ok env σ h) (o : OwnL h a vs) (no : a ∉ owned σ) : a ∉ hideL env σ l := fun m => by
  have nf := node_not_frame i.frame (IsNode.list o.list)
  unfold hideL at m
  simp only [List.mem_cons, List.mem_append, List.mem_filterMap] at m
  rcases m with m | ⟨⟨x, y⟩, hm, hl⟩ | m | ⟨e, he, hf⟩
  · exact nf (.inl m)
  · exact nf (.inr ⟨x, hl⟩)
  · exact no m
  · obtain ⟨_, L, m, q1, q2, ⟨ob, _, _, e, d, _⟩, _⟩ := hS.2.2 e he
    rw [q1] at hf; cases hf
    obtain ⟨m, e'⟩ := o
    rw [e] at e'; cases e'; cases d
/-- x = e, and from there on more ground -/
theorem ExP.assignGrow {x y : Str} {a : Addr} {ds : List D} {e : Expr} {p pos : Pos} {rest : List Stmt} {Q : Fl → St → Prop} (hl : σ.lookup y = some (.own a ds)) (hx : Storable env x)
    (he : ∀ ok A s, HS G.base env l A s.heap → Room n A → G.base.StaysIn s.heap → Inv G.base ok env σ s.heap → wpAny G.M A (eval e env) (fun v s₁ => Stp G.base s s₁ ∧ ∃ d, Rep (okO ok (setS y (.val (.list ds)) σ)) s₁.heap v d ∧
      ∀ b k, b.StaysIn s₁.heap → (∀ c o, s₁.heap.get? c = some o → c ∉ hideL env (setS y (.val (.list ds)) σ) l → b.get? c = some o) → ExP (G.grow b k) n env (HS b env l) (setS x (.val d) (setS y (.val (.list ds)) σ)) rest Q) (fun _ _ => False) s)
    (hs : swapsWith e (some (.Name x p)) pos.line env = pure false := by rfl) : ExP G n env (HS G.base env l) σ (.Assign [.Name x p] e pos :: rest) Q := fun ok A s E hS r k i => by
  refine wpAny_execs_cons (wpAny_Assign_Name (wpAny_mono (he ok A s hS r k i) (fun v s₁ q => ?_) fun _ _ x => x.elim) hs)
  obtain ⟨st, d, rp, hr⟩ := q
  have i₁ := (i.ext st.ext).freeze hl
  have hS₁ : HS G.base env l A s₁.heap := rdS.ext st.ext hS
  have k₁ := st.ext.base k
  generalize hσ : setS y (.val (.list ds)) σ = σ₁ at *
  have hoff : ∀ c ∈ hideL env σ₁ l, G.base.get? c = none := fun c m => by
    unfold hideL at m
    simp only [List.mem_cons, List.mem_append, List.mem_filterMap] at m
    rcases m with m | ⟨⟨x, y⟩, hm, hl⟩ | m | ⟨e, he, hf⟩
    · exact i₁.off _ (.inl (.inl m))
    · exact i₁.off _ (.inl (.inr ⟨x, hl⟩))
    · exact i₁.off _ (.inr m)
    · obtain ⟨_, L, m, q1, q2, _⟩ := hS₁.2.2 e he
      rw [q1] at hf; cases hf; exact q2
  have kb : G.base.StaysIn (hideAll s₁.heap (hideL env σ₁ l)) := fun c o e => hideAll_get _ (k₁ c o e) fun m => by rw [hoff c m] at e; cases e
  have kb2 : (hideAll s₁.heap (hideL env σ₁ l)).StaysIn s₁.heap := fun c o e => of_hideAll _ e
  have hrest := hr _ kb kb2 fun c o e m => hideAll_get _ e m
  generalize hB : hideAll s₁.heap (hideL env σ₁ l) = B at *
  have i₂ : Inv B ok env σ₁ s₁.heap := i₁.turn fun c w => by rw [← hB]; exact hideAll_none _ (hideL_wr w)
  have hS₂ : HS B env l A s₁.heap := ⟨hS₁.1, hS₁.2.1, fun e he => by
    obtain ⟨q0, L, m, q1, q2, q3, q4⟩ := hS₁.2.2 e he
    exact ⟨q0, L, m, q1, by rw [← hB]; exact hideAll_none _ (hideL_stk he q1), q3, q4⟩⟩
  refine wpAny_store (base := B) i₂.frame hx fun s₂ hv ho F₂ m₂ => ?_
  have i₃ := i₂.set_val m₂ F₂ hv ho rp
  have m₂' : Mv B (Wr env σ₁) s₁ s₂ := m₂.weak fun _ w => .inl w
  have kB : B.StaysIn s₂.heap := m₂'.base kb2 i₂.off
  have R : Rd B env (fpS l) (HS B env l) := rdS
  refine wpAny_mono (hrest ok A s₂ E (R.mv i₂ m₂' hS₂) r kB i₃) (fun f s₃ z => ?_) fun _ _ x => x
  obtain ⟨fl, σ', q, fi, i', m', k', o'⟩ := z.less
  have ow : ∀ b, b ∈ owned σ₁ → b ∈ owned σ := fun b w => by rw [← hσ] at w; exact owned_setS_val w
  have m02 : Mv G.base (Wr env σ) s s₂ := (st.mv (W := Wr env σ)).trans (⟨m₂'.ext.less kb, m₂'.dom, m₂'.os, m₂'.gens⟩ : Mv G.base (Wr env σ₁) s₁ s₂) fun b w => .inl (w.imp id (ow b))
  refine ⟨fl, σ', q, fi, i', m02.trans m' fun b w => .inl (w.imp id fun z => ow b (owned_setS_val z)), k', fun b w => ?_⟩
  rcases o' b w with w | w
  · exact .inl (ow b (owned_setS_val w))
  · exact .inr (m02.dom b w)
end
end Mine
end
section
open PySem PySem.W PyProof.Rows PySem.Calls
set_option maxRecDepth 100000
namespace Mine
section
variable {G : Gr} {n : Nat} {env : Env} {σ : St} {l : List Env}
theorem others_ev {xs xt : Str} {ins rws : List D} {al : Addr} {key : Str} {p0 p1 p2 p3 p4 p5 p6 p7 p8 p9 p10 pos : Pos} {k0 k1 : Nat} (hs : σ.lookup xs = some (.val (.list ins))) (ht : σ.lookup xt = some (.own al rws))
    (hlk : env.kindOf "len" = some .globalImplicit) (hlg : G.mg "len" = none) (htk : env.kindOf "tuple" = some .globalImplicit) (htg : G.mg "tuple" = none) (hz : ins.length < 2 ^ 62) (hz2 : rws.length ≤ sizeLine)
    (hd : (xt == ("__debug__" : Str)) = false := by decide) (hc : (xt == ("__classdict__" : Str)) = false := by decide) (hd2 : (xs == ("__debug__" : Str)) = false := by decide) (hc2 : (xs == ("__classdict__" : Str)) = false := by decide)
    {ok : Addr → Prop} {A : Around} {s : Shared} {E : Value → Shared → Prop} (r : Room n A) (k : G.base.StaysIn s.heap) (i : Inv G.base ok env σ s.heap) {Q : Value → Shared → Prop}
    (h : ∀ s₁ v vs tk at' ad ll, Stp G.base s s₁ → v = .ref ll → s.heap.get? ll = none → OwnL s₁.heap ll [.none, .int (ins.length : Nat) tk, .ref al, .ref at', .ref ad] → OwnL s₁.heap al vs → Bare s₁.heap at' "tuple" → Bare s₁.heap ad "dict" → s.heap.get? at' = none → s.heap.get? ad = none → Q v s₁) :
    wpAny G.M A (eval (.List [.Constant .none k0 p0, .Call (.Name "len" p1) [.Name xs p2] [] p3, .Name xt p4, .Call (.Name "tuple" p5) [.Name xt p6] [] p7, .Dict [some (.Constant (.str key) k1 p8)] [.Name xt p9] p10] pos) env) Q E s := by
  refine List_ (args_cons (Constant_none (args_cons ?_)))
  have hlen : Ev G n env σ (.Call (.Name "len" p1) [.Name xs p2] [] p3) (.int (ins.length : Nat)) := Ev.call (.builtin hlk hlg rfl) (.builtin _) (.cons (.name hs hd2 hc2) .nil) (.len_list hz)
  refine wpAny_mono (hlen ok A s E r k i) (fun v s₁ q => ?_) fun _ _ x => x
  obtain ⟨st, rp⟩ := q
  cases rp
  rename_i tk
  have i₁ := i.ext st.ext
  obtain ⟨hh, _, vs, ow, rvs⟩ := i₁.owns xt al rws ht
  refine args_cons (wpAny_holds i₁.frame.kind hh (args_cons ?_) hd hc)
  have hb : Ev G n env σ (.Name "tuple" p5) (.raw (.type "tuple")) := Ev.builtin htk htg rfl
  refine Call_ (wpAny_mono (hb ok A s₁ E r (st.ext.base k) i₁) (fun v s₂ q => ?_) fun _ _ x => x)
  obtain ⟨st₂, rp⟩ := q
  cases rp
  have i₂ := i₁.ext st₂.ext
  have st02 := st.trans st₂
  have k₂ := st02.ext.base k
  have hh₂ := hh.ext st₂.ext
  have ow₂ := st₂.ext.own ow
  refine callWith_callee (G := G) (.type _) rfl (args_cons (wpAny_holds i₂.frame.kind hh₂ (args_nil ⟨k₂, ?_⟩) hd hc)) rfl
  refine call_tuple_list ow₂.list (fun h' hk => ?_) ?_
  · have st3 : Stp G.base s₂ { s₂ with heap := h' } := .heap hk
    have st4 : Stp G.base { s₂ with heap := h' } { s₂ with heap := h'.push { cls := .type "tuple", data := .seq vs.toArray }, toks := s₂.toks } := .push (s := { s₂ with heap := h' })
    have st04 := (st02.trans st3).trans st4
    have hft : s.heap.get? h'.objs.size = none := (st02.trans st3).ext.none fresh_get
    have i₄ := i.ext st04.ext
    have hh₄ := (hh₂.ext st3.ext).ext st4.ext
    have ow₄ := st4.ext.own (st3.ext.own ow₂)
    generalize hs₄ : ({ s₂ with heap := h'.push { cls := .type "tuple", data := .seq vs.toArray }, toks := s₂.toks } : Shared) = s₄ at *
    have bt : s₄.heap.get? h'.objs.size = some { cls := .type "tuple", data := .seq vs.toArray } := by rw [← hs₄]; exact Heap.get?_push_size _ rfl
    refine args_cons ?_
    refine wpAny_Dict_pairs (knd := strKind G.prog G.w) (pairs := [(eval (.Constant (.str key) k1 p8) env, do let x ← eval (.Name xt p9) env; standAt p10; pure x)]) rfl (by simp) (by simp) ?_
    have st5 : Stp G.base s₄ { s₄ with heap := s₄.heap.push { cls := .type "dict", data := .dict #[] } } := .push
    have hft2 : s.heap.get? s₄.heap.objs.size = none := st04.ext.none fresh_get
    refine evalPairs_cons (Constant_str ?_)
    generalize hs₅ : ({ s₄ with heap := s₄.heap.push { cls := .type "dict", data := .dict #[] } } : Shared) = s₅ at *
    have hdict : s₅.heap.DictOf (strKind G.prog G.w) s₄.heap.objs.size [] := by rw [← hs₅]; exact Heap.DictOf.new _
    have i₅ := i₄.ext st5.ext
    have hh₅ := hh₄.ext st5.ext
    have ow₅ := st5.ext.own ow₄
    have bt₅ : s₅.heap.get? h'.objs.size = some { cls := .type "tuple", data := .seq vs.toArray } := by rw [← hs₅]; exact Heap.get?_push_of_some _ bt
    refine wpAny_bind (wpAny_holds i₅.frame.kind hh₅ (wpAny_bind (wpAny_standAt (wpAny_pure ?_))) hd hc)
    refine evalPairs_nil ?_
    refine ⟨[(key, .ref al)], ⟨?_, rfl, trivial⟩, hdict, fun h₆ hm hsm => ?_⟩
    · show Value.isStrOf key (.str key s₅.toks) = true
      first | rfl | simp [Value.isStrOf]
    refine args_nil ?_
    have nal : al ≠ s₄.heap.objs.size := fun z => by obtain ⟨m, q⟩ := ow₄; rw [z, fresh_get] at q; cases q
    have nat : h'.objs.size ≠ s₄.heap.objs.size := fun z => by rw [z, fresh_get] at bt; cases bt
    obtain ⟨od, es, ep, hod, hex, hdd, _⟩ := hm
    have kp : ∀ b o, s₄.heap.get? b = some o → h₆.get? b = some o := fun b o q => by
      rw [hsm.2 b fun z => by rw [z, fresh_get] at q; cases q]
      show s₅.heap.get? b = _
      rw [← hs₅]; exact Heap.get?_push_of_some _ q
    refine wpAny_newObj_type ?_ (by show 5 ≤ sizeLine; decide)
    have st6 : Stp G.base s₄ { s₅ with heap := h₆, toks := s₅.toks + 1 + 1 } := ⟨.of_stays kp, by rw [← hs₅], by rw [← hs₅]; exact .refl⟩
    refine h _ _ vs tk h'.objs.size s₄.heap.objs.size _ (st04.trans (st6.trans .push)) rfl ((st04.trans st6).ext.none fresh_get) ⟨_, Heap.get?_push_size _ rfl⟩ ?_ ?_ ?_ hft hft2
    · obtain ⟨m, q⟩ := ow₄
      exact ⟨m, Heap.get?_push_of_some _ (kp _ _ q)⟩
    · exact ⟨_, _, Heap.get?_push_of_some _ (kp _ _ bt), fun c z => nomatch z⟩
    · obtain ⟨cls, dict, dat, sl⟩ := od
      obtain ⟨e1, e2, e3⟩ := hex
      dsimp only at e1 e2 e3 hdd
      subst e1 e2
      exact ⟨dat, sl, Heap.get?_push_of_some _ hod, fun c z => by rw [hdd] at z; cases z⟩
  · rw [List.size_toArray, rvs.length]; exact hz2
end
end Mine
end
section
open PySem PySem.W PyProof.Rows PySem.Calls
set_option maxRecDepth 100000
namespace Mine
section
variable {G : Gr} {n : Nat} {H : Around → Heap → Prop} {name : Str}
theorem MethX.none (hm : typeLookup (.type "NoneType") name = pure none) (hn : (["__module__", "__name__", "__qualname__", "__doc__", "__annotations__"] : List Str).contains name = false) (hz : (attrWords "NoneType" name).length ≤ sizeLine) : MethX G n H .none name "AttributeError" (attrWords "NoneType" name) := fun ok A s v pl q r k f rp => by
  cases rp
  exact miss (base := G.base) (missNone hm) (fun _ => rfl) (fun _ _ _ _ h => wpAny_pure h) (fun _ _ _ _ h => guard_none hn h) hz r.handled fun s' e ex => ⟨e, .new, rfl, .inl rfl, ex⟩
theorem MethX.int {i : Int} (hm : typeLookup (.type "int") name = pure Option.none) (hn : (["__module__", "__name__", "__qualname__", "__doc__", "__annotations__"] : List Str).contains name = false) (hz : (attrWords "int" name).length ≤ sizeLine) : MethX G n H (.int i) name "AttributeError" (attrWords "int" name) := fun ok A s v pl q r k f rp => by
  cases rp
  exact miss (base := G.base) (missInt hm) (fun _ => rfl) (fun _ _ _ _ h => wpAny_pure h) (fun _ _ _ _ h => guard_none hn h) hz r.handled fun s' e ex => ⟨e, .new, rfl, .inl rfl, ex⟩
theorem MethX.bare {a : Addr} {T ga : String} (F : MissF T ga name) (hb : Bare G.base a T) (hn : (["__module__", "__name__", "__qualname__", "__doc__", "__annotations__"] : List Str).contains name = false) (hz : (attrWords T name).length ≤ sizeLine) : MethX G n H (.raw (.ref a)) name "AttributeError" (attrWords T name) := fun ok A s v pl q r k f rp => by
  cases rp
  obtain ⟨dat, sl, e, hd⟩ := hb
  exact miss (base := G.base) F (fun _ => ⟨_, k _ _ e, rfl⟩) (fun _ _ _ _ h => own_none (k _ _ e) hd h) (fun _ _ _ _ h => guard_none hn h) hz r.handled fun s' e ex => ⟨e, .new, rfl, .inl rfl, ex⟩
end
end Mine
end
section
open PySem PySem.W PyProof.Rows PySem.Calls
set_option maxRecDepth 100000
namespace Mine
section
variable {G : Gr} {n : Nat} {env : Env} {σ : St}
theorem CallX.fn1 {d : DefRec} {a : Addr} {d1 : D} {X : String} {msg : Str} {x : Str} (F : FnAt G d a) (h : ∀ env l, FEnv env d.scope → ExX G n env (HS G.base env l) [(x, .val d1)] d.body X msg)
    (hx : d.params.args.map (·.arg) = [x] := by rfl) (hb : ∀ pm code doc v, bindArgs (docDef d.name d.params d.body d.scope pm code doc) ⟨[v], []⟩ = pure [(x, v)] := by intros; rfl)
    (hkind : (d.params.args.all fun y => d.scope.names.lookup y.arg == some .local || d.scope.names.lookup y.arg == some .cell) = true := by rfl)
    (hco : d.scope.isCoroutine = false := by rfl) (hgen : d.scope.isGenerator = false := by rfl) (hk : d.scope.kind = .function := by rfl) : CallX G (n + 1) (.ref a) [d1] X msg := by
  have hlen : d.params.args.length = 1 := by have := congrArg List.length hx; simpa using this
  refine CallX.def F (by rw [hlen]; rfl) (fun pm code doc vs hv => ?_) hkind (by rw [hx]; simp) (fun env l FE => ?_) hco hgen hk
  · obtain ⟨v, rfl⟩ := List.length_eq_one_iff.mp hv
    rw [hb, hx]; rfl
  · have hz : (d.params.args.map (·.arg)).zip ([d1].map Slot.val) = [(x, .val d1)] := by rw [hx]; rfl
    rw [hz]; exact h env l FE
theorem sub_ae_be : isSubtype (.type "AttributeError") (.type "BaseException") = pure true := by rw [isSubtype_type]; kernel_rfl
theorem sub_te_be : isSubtype (.type "TypeError") (.type "BaseException") = pure true := by rw [isSubtype_type]; kernel_rfl
theorem sub_ae_ae : isSubtype (.type "AttributeError") (.type "AttributeError") = pure true := by rw [isSubtype_type]; kernel_rfl
theorem sub_te_ae : isSubtype (.type "TypeError") (.type "AttributeError") = pure false := by rw [isSubtype_type]; kernel_rfl
theorem meta_ae : isSubtype (.type ((Manifest.find? "AttributeError").elim "type" fun x => x.metatype)) (.type "tuple") = pure false := by
  rw [show ((Manifest.find? "AttributeError").elim "type" fun x => x.metatype) = "type" from by decide +kernel, isSubtype_type]; kernel_rfl
theorem meta_te : isSubtype (.type ((Manifest.find? "TypeError").elim "type" fun x => x.metatype)) (.type "tuple") = pure false := by
  rw [show ((Manifest.find? "TypeError").elim "type" fun x => x.metatype) = "type" from by decide +kernel, isSubtype_type]; kernel_rfl
end
end Mine
end
section
open PySem PySem.W PyProof.Rows PySem.Calls
set_option maxRecDepth 100000
namespace Mine
section
variable {G : Gr} {n : Nat} {env : Env} {σ : St} {fp : Addr → Prop} {H : Around → Heap → Prop}
theorem ExP.forX {target iter : Expr} {body rest : List Stmt} {pos : Pos} {ds : List D} {f : D → St → St} {Q : Fl → St → Prop} (R : Rd G.base env fp H) (σ₀ : St) (h0 : Sub σ₀ σ) (nd : (σ₀.map (·.1)).Nodup)
    (hi : EvIX G n env σ₀ iter target ds) (ht : ∀ d ∈ ds, AssD G n env target d (f d))
    (turn : ∀ (i : Nat) (d : D), ds[i]? = some d → ExP G n env H (f d σ₀) body fun fl σ₂ => match fl with
      | .next | .cont => Sub σ₀ σ₂
      | .brk => ExP G n env H σ₂ rest Q
      | .ret r => Q (.ret r) σ₂)
    (done : ExP G n env H σ₀ rest Q) (hs : ∀ x, foldedSetIterable iter env x = pure x := by intro _; rfl) : ExP G n env H σ (.For target iter body [] pos :: rest) Q := by
  refine ExP.cons R (ExP1.only h0 ?_ nd)
  refine ExP1.forX (f := f) R hi ht (fun i σ₁ => σ₁ = σ₀) rfl (fun i d σ₁ hd hJ => ?_) (fun σ₁ hJ => by subst hJ; exact done) hs
  subst hJ
  refine (turn i d hd).post fun fl σ' h => ?_
  cases fl with
  | next => exact .inr ⟨_, h, nd, rfl⟩
  | cont => exact .inr ⟨_, h, nd, rfl⟩
  | brk => exact .inl h
  | ret r => exact .inl h
end
end Mine
end
section
open PySem PySem.W PyProof.Rows PySem.Calls
set_option maxRecDepth 100000
namespace Mine
section
variable {G : Gr} {n : Nat} {env : Env} {σ : St}
def pairL (xs ys : List D) : List D := List.zipWith (fun a b => .tuple [a, b]) xs ys
theorem RepAll.getV {ok : Addr → Prop} {h : Heap} : ∀ {vs : List Value} {ds : List D} {i : Nat} {v : Value}, RepAll ok h vs ds → vs[i]? = some v → ∃ d, ds[i]? = some d ∧ Rep ok h v d
  | _, _, i, v, .nil, e => by simp at e
  | _, _, 0, v, .cons r _, e => by simp at e; subst e; exact ⟨_, rfl, r⟩
  | _, _, i + 1, v, .cons _ rs, e => by simp at e; simpa using rs.getV e
theorem ItrX.zip {A : Around} {ok : Addr → Prop} {elts : List Expr} {k : Nat} {pos : Pos} {z TI TO i1 i2 l1 l2 : Addr} {v1 v2 : List Value} {xs ys : List D} (hh : A.handled = none) (D : ZipApart z TI TO i1 i2 l1 l2) (hx : v1.length = xs.length) (hy : v2.length = ys.length)
    (o1 : ok l1) (o2 : ok l2) (oT : ¬ ok TO) :
    ItrX G A ok (· = TO) (.Tuple elts k pos) z (pairL xs ys) (· ∈ [z, TI, TO, i1, i2]) (· ∈ [z, TO, i1, i2]) (fun _ => False)
      (fun i s => (IsZip s.heap z TI TO .none ∧ IsPair s.heap TI (.ref i1) (.ref i2) ∧ (∃ a b, IsPair s.heap TO a b) ∧ s.heap.IsListIter i1 l1 i ∧ s.heap.IsListIter i2 l2 i ∧ s.heap.IsList l1 v1.toArray ∧ s.heap.IsList l2 v2.toArray) ∧ RepAll ok s.heap v1 xs ∧ RepAll ok s.heap v2 ys) where
  frame := fun i s s' W' hs mv hf hn => by
    have W := WalksT.zip2 (prog := G.prog) (w := G.w) hh z TI TO i1 i2 l1 l2 D v1.toArray v2.toArray
    obtain ⟨hs0, r1, r2⟩ := hs
    refine ⟨W.frame i s.heap s'.heap hs0 fun b hb o e => ?_, r1.extBut mv.ext hn fun _ q _ => q, r2.extBut mv.ext hn fun _ q _ => q⟩
    obtain ⟨hz, hTI, ⟨a, b', hTO⟩, ⟨oi1, e1, c1, d1⟩, ⟨oi2, e2, c2, d2⟩, hl1, hl2⟩ := hs0
    have go : ∀ ob : Obj, s.heap.get? b = some ob → b ∈ [z, TI, TO, i1, i2] → isDict ob.data = false → s'.heap.get? b = some o := fun ob eb hb' hd => by
      rw [eb] at e; cases e
      obtain ⟨o', e', _, _, k'⟩ := mv.ext b _ (hf b hb') eb
      rw [e', k' (.inr hd)]
    simp only [List.mem_cons, List.not_mem_nil, or_false] at hb
    rcases hb with rfl | rfl | rfl | rfl | rfl | rfl | rfl
    · exact go _ hz (by simp) rfl
    · exact go _ hTI (by simp) rfl
    · exact go _ hTO (by simp) rfl
    · exact go _ e1 (by simp) (by rw [d1]; rfl)
    · exact go _ e2 (by simp) (by rw [d2]; rfl)
    · exact node_keep mv.ext (.list hl1) (hn _ o1 (.list hl1)) e
    · exact node_keep mv.ext (.list hl2) (hn _ o2 (.list hl2)) e
  node := fun i s a hs ha => by
    obtain ⟨⟨hz, hTI, ⟨a', b', hTO⟩, ⟨oi1, e1, c1, d1⟩, ⟨oi2, e2, c2, d2⟩, hl1, hl2⟩, _⟩ := hs
    simp only [List.mem_cons, List.not_mem_nil, or_false] at ha
    rcases ha with rfl | rfl | rfl | rfl
    · exact ⟨fun _ => not_node hz rfl rfl, by rw [hz]; rfl⟩
    · exact ⟨fun q => absurd rfl q, by rw [hTO]; rfl⟩
    · exact ⟨fun _ => not_node e1 c1 rfl, by rw [e1]; rfl⟩
    · exact ⟨fun _ => not_node e2 c2 rfl, by rw [e2]; rfl⟩
  item := fun i d s E ok' hd hs kb hok hfr => by
    have W := WalksT.zip2 (prog := G.prog) (w := G.w) hh z TI TO i1 i2 l1 l2 D v1.toArray v2.toArray
    obtain ⟨hs0, r1, r2⟩ := hs
    have hlt : i < min v1.toArray.size v2.toArray.size := by
      have := (List.getElem?_eq_some_iff.mp hd).1
      simp only [pairL, List.length_zipWith] at this
      simp; omega
    refine W.item i s _ E hlt hs0 fun T vals h' tk hp hT ht hmid hk => ?_
    refine ⟨_, rfl, W.go elts k pos i T _ _ E hmid fun h'' hst hk' => ?_⟩
    have hTw := W.apart i T h' hmid
    have mi : MvI G.base (· ∈ [z, TO, i1, i2]) (fun _ => False) s { s with heap := h'', toks := tk } := .of_keepL fun b o w e => hk' b o w (hk b o w e)
    have nn : ∀ a, ok a → IsNode s.heap a → ¬ a ∈ [z, TO, i1, i2] := fun a q nd ha => by
      obtain ⟨hz, hTI, ⟨a', b', hTO⟩, ⟨oi1, e1, c1, d1⟩, ⟨oi2, e2, c2, d2⟩, hl1, hl2⟩ := hs0
      simp only [List.mem_cons, List.not_mem_nil, or_false] at ha
      rcases ha with rfl | rfl | rfl | rfl
      · exact not_node hz rfl rfl nd
      · exact oT q
      · exact not_node e1 c1 rfl nd
      · exact not_node e2 c2 rfl nd
    have rs1 : RepAll ok h'' v1 xs := r1.extBut mi.ext nn fun _ q _ => q
    have rs2 : RepAll ok h'' v2 ys := r2.extBut mi.ext nn fun _ q _ => q
    obtain ⟨x, y, ex, ey, rfl⟩ := hp
    obtain ⟨dx, hdx, rx⟩ := rs1.getV (i := i) (by simpa using ex)
    obtain ⟨dy, hdy, ry⟩ := rs2.getV (i := i) (by simpa using ey)
    have hdd : d = .tuple [dx, dy] := by
      simp only [pairL, List.getElem?_zipWith, hdx, hdy] at hd
      exact (Option.some.inj hd).symm
    subst hdd
    have hTf : s.heap.get? T = none := by
      cases q : s.heap.get? T with
      | none => rfl
      | some o => exact absurd (Heap.lt_size q) (Nat.not_lt.mpr hT)
    refine ⟨.tuple (vs := [x, y]) (hfr T hTf) ?_ ((RepAll.cons rx (.cons ry .nil)).weak hok), ⟨hst, rs1, rs2⟩, mi⟩
    obtain ⟨o, e, c, n', dd⟩ := ht
    exact ⟨o, hk' T o hTw e, c, n', by simpa using dd⟩
  done := fun s E hs kb => by
    have W := WalksT.zip2 (prog := G.prog) (w := G.w) hh z TI TO i1 i2 l1 l2 D v1.toArray v2.toArray
    have hm : min v1.toArray.size v2.toArray.size = (pairL xs ys).length := by simp [pairL, hx, hy]
    exact W.done s _ E (hm ▸ hs.1) fun h' tk hk => ⟨rfl, .of_keepL hk⟩
theorem lt_sizeN {h : Heap} {a : Nat} {o : Obj} (e : h.get? a = some o) : @LT.lt Nat _ a h.objs.size := Heap.lt_size e
theorem zipApart (N l1 l2 : Nat) (h1 : @LT.lt Nat _ l1 N) (h2 : @LT.lt Nat _ l2 N) : ZipApart (N + 4) (N + 2) (N + 3) N (N + 1) l1 l2 := by constructor <;> exact fun (q : @Eq Nat _ _) => by omega
theorem boot_zip : bootBuiltins "zip" = some (.type "zip") := by first | rfl | kernel_rfl
theorem EvIX.zip {e1 e2 : Expr} {p pos tp : Pos} {ts : List Expr} {k : Nat} {xs ys : List D} (hk : env.kindOf "zip" = some .globalImplicit) (hg : G.mg "zip" = none) (h1 : Ev G n env σ e1 (.list xs)) (h2 : Ev G n env σ e2 (.list ys))
    (hns : noStar [e1, e2] = true := by rfl) (hplain : (backTo pos (starEach [e1, e2] env)).any (·.1) = false := by rfl) (he : starEach [e1, e2] env = (false, eval e1 env) :: starEach [e2] env := by rfl) (he2 : starEach [e2] env = (false, eval e2 env) :: starEach [] env := by rfl) :
    EvIX G n env σ (.Call (.Name "zip" p) [e1, e2] [] pos) (.Tuple ts k tp) (pairL xs ys) := fun ok A s E r kb i => by
  have hb : Ev G n env σ (.Name "zip" p) (.raw (.type "zip")) := Ev.builtin hk hg boot_zip
  refine Call_ (wpAny_mono (hb ok A s E r kb i) (fun v s₁ p₁ => ?_) fun _ _ x => x)
  obtain ⟨st, rp⟩ := p₁
  cases rp
  have kb₁ := st.ext.base kb
  refine callWith_callee (G := G) (.type _) hplain (wpAny_mono ((EvL.cons h1 (.cons h2 .nil he2) he : EvL G n env σ [e1, e2] [.list xs, .list ys]) ok A s₁ E pos r kb₁ (i.ext st.ext)) (fun vs s₂ p₂ => ⟨p₂.1.ext.base kb₁, ?_⟩) fun _ _ x => x) hns
  obtain ⟨st₂, rs⟩ := p₂
  have st12 := st.trans st₂
  cases rs with
  | cons ra rs =>
    cases rs with
    | cons rb rs =>
      cases rs
      cases ra with
      | @list l1 v1 _ o1 hl1 r1 =>
        cases rb with
        | @list l2 v2 _ o2 hl2 r2 =>
          refine call_zip_2 hl1 hl2 fun h' hz hTI hTO hi1 hi2 hsz hkp => ?_
          have lt1 : @LT.lt Nat _ l1 s₂.heap.objs.size := by obtain ⟨o, e, _⟩ := hl1; exact lt_sizeN e
          have lt2 : @LT.lt Nat _ l2 s₂.heap.objs.size := by obtain ⟨o, e, _⟩ := hl2; exact lt_sizeN e
          generalize hN : s₂.heap.objs.size = N at *
          have D : ZipApart (N + 4) (N + 2) (N + 3) N (N + 1) l1 l2 := zipApart N l1 l2 lt1 lt2
          have W := WalksT.zip2 (prog := G.prog) (w := G.w) (A := A) r.handled (N + 4) (N + 2) (N + 3) N (N + 1) l1 l2 D v1.toArray v2.toArray
          have st₃ : Stp G.base s₂ { s₂ with heap := h' } := ⟨.of_stays hkp, rfl, .refl⟩
          have hst : IsZip h' (N + 4) (N + 2) (N + 3) .none ∧ IsPair h' (N + 2) (.ref N) (.ref (N + 1)) ∧ (∃ a b, IsPair h' (N + 3) a b) ∧ h'.IsListIter N l1 0 ∧ h'.IsListIter (N + 1) l2 0 ∧ h'.IsList l1 v1.toArray ∧ h'.IsList l2 v2.toArray := ⟨hz, hTI, ⟨_, _, hTO⟩, hi1, hi2, st₃.ext.list hl1, st₃.ext.list hl2⟩
          refine W.self 0 { s₂ with heap := h' } _ _ hst ?_
          have hf0 : ∀ a : Nat, @LE.le Nat _ N a → s.heap.get? a = none := fun a ha => by
            cases q : s₂.heap.get? a with
            | none => exact st12.ext.none q
            | some o => have := lt_sizeN q; omega
          have old : ∀ a, (s₂.heap.get? a).isSome = true → (h'.get? a).isSome = true ∧ a ≠ N + 3 := fun a q => by
            obtain ⟨o, e⟩ := Option.isSome_iff_exists.mp q
            refine ⟨by rw [hkp a o e]; rfl, fun (z : @Eq Nat _ _) => ?_⟩
            have := lt_sizeN e; omega
          have some1 : (s₂.heap.get? l1).isSome = true := by obtain ⟨o, e, _⟩ := hl1; rw [e]; rfl
          have some2 : (s₂.heap.get? l2).isSome = true := by obtain ⟨o, e, _⟩ := hl2; rw [e]; rfl
          refine ⟨st12.trans st₃, N + 4, (· ∈ [N + 4, N + 2, N + 3, N, N + 1]), (· ∈ [N + 4, N + 3, N, N + 1]), fun _ => False, _, (· = N + 3), rfl,
            ItrX.zip (v1 := v1) (v2 := v2) r.handled D r1.length r2.length ⟨o1, (old _ some1).1, (old _ some1).2⟩ ⟨o2, (old _ some2).1, (old _ some2).2⟩ (fun q => q.2.2 rfl), ⟨hst, r1.ext st₃.ext fun a q z => ⟨q, old a z⟩, r2.ext st₃.ext fun a q z => ⟨q, old a z⟩⟩, ?_, ?_, ?_, fun g hg => hg.elim⟩
          · intro a ha
            simp only [List.mem_cons, List.not_mem_nil, or_false] at ha
            refine ⟨?_, fresh_not_wr i (hf0 a (by rcases ha with rfl | rfl | rfl | rfl | rfl <;> (show @LE.le Nat _ _ _; omega)))⟩
            obtain ⟨oi1, e1, _⟩ := hi1
            obtain ⟨oi2, e2, _⟩ := hi2
            show (h'.get? a).isSome = true
            rcases ha with rfl | rfl | rfl | rfl | rfl
            · rw [hz]; rfl
            · rw [hTI]; rfl
            · rw [hTO]; rfl
            · rw [e1]; rfl
            · rw [e2]; rfl
          · intro a ha
            simp only [List.mem_cons, List.not_mem_nil, or_false] at ha
            refine ⟨hf0 a (by rcases ha with rfl | rfl | rfl | rfl <;> (show @LE.le Nat _ _ _; omega)), ?_⟩
            rcases ha with rfl | rfl | rfl | rfl <;> simp
          · rintro a rfl
            simp
end
end Mine
end
section
open PySem PySem.W PyProof.Rows PySem.Calls
set_option maxRecDepth 100000
namespace Mine
section
variable {G : Gr} {n : Nat} {env : Env} {σ : St} {H : Around → Heap → Prop}
/-- a test may read a list of the frame's own as any other -/
theorem Tr.borrow {x : Str} {a : Addr} {ds : List D} {e : Expr} {c : Bool} (l : σ.lookup x = some (.own a ds)) (h : Tr G n env (setS x (.val (.list ds)) σ) e c) : Tr G n env σ e c := fun ok A s E r k i => h ok A s E r k (i.freeze l)
theorem EvF.borrow {x : Str} {a : Addr} {ds es : List D} {e : Expr} (l : σ.lookup x = some (.own a ds)) (h : EvF G n env (setS x (.val (.list ds)) σ) e es) (ha : ∀ d ∈ es, Atomic d = true) : EvF G n env σ e es := fun ok A s E r k i =>
  wpAny_mono (h ok A s E r k (i.freeze l)) (fun v s' p => by
    obtain ⟨st, b, vs, e1, f, lo, rs⟩ := p
    exact ⟨st, b, vs, e1, f, lo, rs.atomics ha⟩) fun _ _ x => x
end
end Mine
end
section
open PySem PySem.W PyProof.Rows PySem.Calls
set_option maxRecDepth 100000
namespace Mine
section
variable {G : Gr} {n : Nat} {env : Env} {σ : St} {H : Around → Heap → Prop}
theorem ints_of {ok : Addr → Prop} {h : Heap} : ∀ {vs : List Value} {ns : List Int}, RepAll ok h vs (ns.map .int) → IntsAre vs ns
  | _, [], r => by cases r; exact .nil
  | _, n :: ns, r => by
    cases r with | cons a r => cases a with | int i t => exact .cons _ _ (ints_of r)
/-- bytes(list of small ints) -/
theorem CallD.bytes {ns : List Int} (hr : ∀ n ∈ ns, 0 ≤ n ∧ n < 256) (hz : ns.length ≤ sizeLine) : CallD G n (.type "bytes") [.list (ns.map .int)] (.bytes (byteArr ns)) := fun ok A s E vs r k f rv => by
  cases rv with | cons a rs =>
  cases rs
  cases a with | list o l rs =>
  refine call_bytes_ints l (ints_of rs) hr (by have := rs.length; simp only [List.length_map] at this; omega) r.handled fun h' t k hk => ⟨.heap hk, .bytes _ _⟩
/-- list.count of texts -/
def isStr (x : Str) : Value → Bool
  | .str y _ => decide (y = x)
  | _ => false
theorem countP_strs {ok : Addr → Prop} {h : Heap} {x : Str} : ∀ {vs : List Value} {ts : List Str}, RepAll ok h vs (ts.map .str) → vs.countP (isStr x) = ts.countP (fun t => decide (t = x))
  | _, [], r => by cases r; rfl
  | _, t :: ts, r => by
    cases r with | cons a r => cases a with | str y u =>
    rw [List.countP_cons, List.countP_cons, countP_strs r]
    rfl
theorem eq_isStr {ok : Addr → Prop} {h : Heap} {x : Str} {u : Tok} : ∀ {vs : List Value} {ts : List Str}, RepAll ok h vs (ts.map .str) → ∀ y, y ∈ vs → MeetsSeq.EqGives y (.str x u) (isStr x y)
  | _, [], r, y, hy => by cases r; cases hy
  | _, t :: ts, r, y, hy => by
    cases r with | cons a r => cases a with | str z w =>
    rcases List.mem_cons.mp hy with rfl | hy
    · show MeetsSeq.EqGives _ _ (decide (t = x))
      rw [← str_beq]
      exact eqGives_str _ _ _ _
    · exact eq_isStr r y hy
theorem Ev.countOwn {x : Str} {p1 p2 p3 : Pos} {e : Expr} {a : Addr} {ts : List Str} {y : Str} (l : σ.lookup x = some (.own a (ts.map .str))) (h : Ev G n env σ e (.str y))
    (hd : (x == ("__debug__" : Str)) = false := by decide) (hc : (x == ("__classdict__" : Str)) = false := by decide)
    (he1 : starEach [e] env = [(false, eval e env)] := by rfl)
    {pl : Sem Bool} (he : eval (.Call (.Attribute (.Name x p1) "count" p2) [e] [] p3) env = (do
      let ov ← eval (.Name x p1) env
      standAt p2.atName
      let (f, first) ← holding [ov] (getMethod ov "count" pl)
      callWith p3 f first (backTo p3 (starEach [e] env)) []) := by rfl) :
    Ev G n env σ (.Call (.Attribute (.Name x p1) "count" p2) [e] [] p3) (.int (ts.countP (fun t => decide (t = y)) : Nat)) := fun ok A s E r k i => by
  obtain ⟨q, o, vs, lv, rs⟩ := i.owns x a _ l
  refine MethodCall_ (pl := pl) (wpAny_holds i.frame.kind q ?_ hd hc) he
  obtain ⟨m, hm⟩ := lv
  refine getMethod_list_of PySem.F.slot_list_count PySem.F.type_list_count (OwnL.list ⟨m, hm⟩) ⟨_, hm, rfl⟩ ?_
  refine callWith_callee (.builtin _) (by rw [he1]; rfl) (G := G) ?_ (by cases e <;> first | rfl | cases he1)
  refine PyProof.Rows.args_cons (wpAny_mono (h ok A s E r k i) (fun v s₁ p₁ => PyProof.Rows.args_nil ?_) fun _ _ x => x) he1
  have k₁ := p₁.1.ext.base k
  refine ⟨k₁, ?_⟩
  obtain ⟨m₁, hm₁⟩ := p₁.1.ext.own ⟨m, hm⟩
  obtain ⟨st, rv⟩ := p₁
  cases rv with | str _ u =>
  refine call_meets PySem.F.slot_list_count ⟨_, hm₁, rfl⟩ PySem.F.entry_list_count (PySem.F.args_list_count_2 _ _) (SeqAt.list_countAt a vs.toArray m₁ Option.none #[] (.str y u) (isStr y)) ⟨hm₁, fun z hz => (eq_isStr rs z (by simpa using hz)).at _ _, ?_⟩
  rw [show vs.toArray.toList = vs from rfl, countP_strs rs]
  exact ⟨st.trans .tok, .int _ _⟩
/-- while y in x: x = x.replace(y, z) -/
theorem Ex.whileReplace {x y z : Str} {rest : List Stmt} {pos p1 p2 p3 p4 p5 p6 p7 p8 p9 p10 : Pos} {k1 k2 k3 : Nat} {Q : Fl → St → Prop} (J : Str → Prop) (S : {w : Str // J w} → St) (w₀) (h0 : Sub (S w₀) σ) (nd : ∀ w, ((S w).map (·.1)).Nodup)
    (hl : ∀ w, (S w).lookup x = some (.val (.str w.1))) (hset : ∀ w w', Sub (S w') (setS x (.val (.str w'.1)) (S w))) (hx : Storable env x) (hyz : (y == z) = false) (hz : z.length = 0)
    (hJ : ∀ w, J w → w.length ≤ 100000) (hdec : ∀ w : Str, J w → Txt.contains w y = true → J (Txt.replace w y z) ∧ (Txt.replace w y z).length < w.length)
    (done : ∀ w, Txt.contains w.1 y = false → Ex G n env (S w) rest Q)
    (hd : (x == ("__debug__" : Str)) = false := by decide) (hc : (x == ("__classdict__" : Str)) = false := by decide)
    (hs : swapsWith (.Call (.Attribute (.Name x p5) "replace" p6) [.Constant (.str y) k2 p7, .Constant (.str z) k3 p8] [] p9) (some (.Name x p4)) p10.line env = pure false := by rfl)
    {pl : Sem Bool} (he : eval (.Call (.Attribute (.Name x p5) "replace" p6) [.Constant (.str y) k2 p7, .Constant (.str z) k3 p8] [] p9) env = (do
      let ov ← eval (.Name x p5) env
      standAt p6.atName
      let (f, first) ← holding [ov] (getMethod ov "replace" pl)
      callWith p9 f first (backTo p9 (starEach [.Constant (.str y) k2 p7, .Constant (.str z) k3 p8] env)) []) := by rfl) :
    Ex G n env σ (.While (.Compare (.Constant (.str y) k1 p1) [.In] [.Name x p2] p3) [.Assign [.Name x p4] (.Call (.Attribute (.Name x p5) "replace" p6) [.Constant (.str y) k2 p7, .Constant (.str z) k3 p8] [] p9) p10] [] pos :: rest) Q := by
  refine Ex.whileT (fun s => s.toks ≠ 0) S (fun w => w.1.length) (fun w => Txt.contains w.1 y) w₀ h0 nd (fun w ok A s E r k i => ?_) (fun w hw ok A s E ht r k i => ?_) done
  · obtain ⟨v, hv, rv⟩ := i.vals _ _ (hl w)
    obtain ⟨w, hwl⟩ := w
    cases rv with | str _ t =>
    refine wpAny_isTrue_Compare1 (Constant_str ?_) rfl
    refine wpAny_holds (i.ext (Stp.tok (base := G.base) (s := s) (tk := s.toks + 1)).ext).frame.kind hv ?_ hd hc
    refine SB.contains (wpAny_truthy_bool ⟨⟨.tok, rfl⟩, Nat.succ_ne_zero _⟩)
  · obtain ⟨v, hv, rv⟩ := i.vals _ _ (hl w)
    have hdw := hdec _ w.2 hw
    have hjw := hJ _ w.2
    obtain ⟨w, hwl⟩ := w
    refine wpAny_execs_cons (wpAny_Assign_Name ?_ hs)
    cases rv with | str _ t =>
    refine MethodCall_ (pl := pl) (wpAny_holds i.frame.kind hv (GM.replace ?_) hd hc) he
    refine callWith_callee (.builtin _) rfl (G := G) ?_ rfl
    refine PyProof.Rows.args_cons (Constant_str (PyProof.Rows.args_cons (Constant_str (PyProof.Rows.args_nil ⟨k, ?_⟩)) rfl)) rfl
    refine SC.replace ht (Nat.succ_ne_zero _) (Nat.ne_of_lt (Nat.lt_succ_self _)) hyz (by rw [hz]; dsimp only at hjw ⊢; omega) fun t' kk => ?_
    have st : Stp G.base s { s with toks := kk } := .tok
    have i₁ := i.ext st.ext
    refine wpAny_store (base := G.base) i₁.frame hx fun s₂ hv ho F m => ?_
    have m' : Mv G.base (Wr env (S ⟨w, hwl⟩)) s s₂ := (st.mv (W := Wr env (S ⟨w, hwl⟩))).trans (m.weak fun _ w => Or.inl w) fun _ w => .inl w
    refine wpAny_execs_nil ⟨.next, setS x (.val (.str (Txt.replace w y z))) (S ⟨w, hwl⟩), ⟨⟨Txt.replace w y z, hdw.1⟩, hdw.2, hset _ _⟩, trivial, i₁.set_val m F hv ho (.str _ _), m', m'.base k i.off, fun a w => .inl (owned_setS_val w)⟩
end
end Mine
end
section
open PySem PySem.W PyProof.Rows PySem.Calls
set_option maxRecDepth 100000
namespace Mine
def isSig (c : Nat) : Bool := c == 40 || c == 41 || c == 34
/-- the bare brackets and marks of a text -/
def bareP : Bool → List Nat → List Nat
  | _, [] => []
  | true, _ :: r => bareP false r
  | false, c :: r => if c = 92 then bareP true r else if isSig c then c :: bareP false r else bareP false r
def sigOf (w : List Nat) : Option Nat := match w with
  | [c] => if isSig c then some c else none
  | _ => none
def sig (ts : List (List Nat)) : List Nat := ts.filterMap sigOf
theorem sig_toks : ∀ (l : List Nat) (i : Nat) (b : Bool), sig ((toks i b l).map (·.2)) = bareP b l
  | [], i, true => rfl
  | [], i, false => rfl
  | c :: r, i, true => by
    rw [toks, bareP, List.map_cons, ← sig_toks r (i + 1) false]; rfl
  | c :: r, i, false => by
    rw [toks, bareP]
    by_cases h : c = 92
    · rw [if_pos h, if_pos h, sig_toks r (i + 1) true]
    · rw [if_neg h, if_neg h, List.map_cons, ← sig_toks r (i + 1) false]
      unfold sig
      by_cases h2 : isSig c = true
      · rw [if_pos h2, List.filterMap_cons_some (b := c)]
        simp [sigOf, h2]
      · rw [if_neg h2, List.filterMap_cons_none]
        simp [sigOf, h2]
theorem sigOf_34 {w : List Nat} : sigOf w = some 34 ↔ w = [34] := by
  constructor
  · intro h
    match w, h with
    | [c], h =>
      unfold sigOf at h
      simp only at h
      split at h
      · cases h; rfl
      · cases h
  · intro h; subst h; rfl
theorem mem34 (l : List Nat) (i : Nat) (b : Bool) : [34] ∈ (toks i b l).map (·.2) ↔ 34 ∈ bareP b l := by
  rw [← sig_toks l i b]
  unfold sig
  rw [List.mem_filterMap]
  constructor
  · intro h; exact ⟨_, h, rfl⟩
  · rintro ⟨w, hw, h⟩; rw [sigOf_34.mp h] at hw; exact hw
theorem bareP_append : ∀ (p : List Nat) (b : Bool) (r : List Nat), ends b p = false → bareP b (p ++ r) = bareP b p ++ bareP false r
  | [], true, r, h => by cases h
  | [], false, r, h => by simp [bareP]
  | c :: p, true, r, h => by
    show bareP true (c :: (p ++ r)) = _
    rw [bareP, bareP, bareP_append p false r h]
  | c :: p, false, r, h => by
    show bareP false (c :: (p ++ r)) = _
    rw [bareP, bareP]
    unfold ends at h
    by_cases hc : c = 92
    · rw [if_pos hc] at h ⊢; rw [if_pos hc, bareP_append p true r h]
    · rw [if_neg hc] at h ⊢
      rw [if_neg hc, bareP_append p false r h]
      split <;> rfl
theorem split34 : ∀ (l : List Nat) (b : Bool), 34 ∈ bareP b l → ∃ p r, l = p ++ 34 :: r ∧ ends b p = false ∧ 34 ∉ bareP b p
  | [], b, h => by cases b <;> cases h
  | c :: r, true, h => by
    rw [bareP] at h
    obtain ⟨p, q, e, h1, h2⟩ := split34 r false h
    exact ⟨c :: p, q, by rw [e]; rfl, h1, by rw [bareP]; exact h2⟩
  | c :: r, false, h => by
    rw [bareP] at h
    by_cases hc : c = 92
    · rw [if_pos hc] at h
      obtain ⟨p, q, e, h1, h2⟩ := split34 r true h
      exact ⟨c :: p, q, by rw [e]; rfl, by rw [ends, if_pos hc]; exact h1, by rw [bareP, if_pos hc]; exact h2⟩
    · rw [if_neg hc] at h
      by_cases h34 : c = 34
      · subst h34
        exact ⟨[], r, rfl, rfl, nofun⟩
      · have hr : 34 ∈ bareP false r := by
          split at h
          · rcases List.mem_cons.mp h with e | e
            · exact absurd e.symm h34
            · exact e
          · exact h
        obtain ⟨p, q, e, h1, h2⟩ := split34 r false hr
        refine ⟨c :: p, q, by rw [e]; rfl, by rw [ends, if_neg hc]; exact h1, ?_⟩
        rw [bareP, if_neg hc]
        split
        · exact fun z => (List.mem_cons.mp z).elim (fun z => h34 z.symm) h2
        · exact h2
theorem bare_quote {m : List Nat} (h : ends false m = false) (r : List Nat) : bareP false (34 :: (m ++ 34 :: r)) = 34 :: (bareP false m ++ 34 :: bareP false r) := by
  rw [bareP, if_neg (by decide), if_pos (by decide), bareP_append m false _ h]
  congr 2
theorem ends_quote {m : List Nat} (h : ends false m = false) : ends false (34 :: (m ++ [34])) = false := by
  rw [ends, if_neg (by decide), ends_append m false _ h]; rfl
def plainU (p : List Nat) : List Un := if p = [] then [] else [⟨false, p⟩]
theorem txt_plainU (p : List Nat) : txt (plainU p) = p := by unfold plainU; split <;> simp_all [txt]
theorem txt_append (us vs : List Un) : txt (us ++ vs) = txt us ++ txt vs := by simp [txt]
theorem decomp : ∀ (n : Nat) (l : List Nat), l.length ≤ n → ∃ us t, l = txt us ++ t ∧ (∀ u ∈ us, u.Ok) ∧ (bareP false t).count 34 ≤ 1 := by
  intro n
  induction n with
  | zero =>
    intro l h
    have : l = [] := List.length_eq_zero_iff.mp (by omega)
    subst this
    exact ⟨[], [], rfl, nofun, by simp [bareP]⟩
  | succ n ih =>
    intro l h
    by_cases hc : (bareP false l).count 34 ≤ 1
    · exact ⟨[], l, rfl, nofun, hc⟩
    · obtain ⟨p, r, e, h1, h2⟩ := split34 l false (List.count_pos_iff.mp (by omega))
      have e1 : bareP false l = bareP false p ++ 34 :: bareP false r := by
        rw [e, bareP_append p false _ h1]; congr 1
      have hr : 34 ∈ bareP false r := by
        refine List.count_pos_iff.mp ?_
        rw [e1, List.count_append, List.count_cons_self, List.count_eq_zero.mpr h2] at hc
        omega
      obtain ⟨m, r', e2, h3, h4⟩ := split34 r false hr
      obtain ⟨us, t, e3, h5, h6⟩ := ih r' (by rw [e, e2] at h; simp at h; omega)
      refine ⟨plainU p ++ ⟨true, 34 :: (m ++ [34])⟩ :: us, t, ?_, ?_, h6⟩
      · rw [txt_append, txt_plainU, e, e2, e3]
        simp [txt]
      · intro u hu
        rcases List.mem_append.mp hu with hu | hu
        · unfold plainU at hu
          split at hu
          · cases hu
          · rename_i hp
            rw [List.mem_singleton.mp hu]
            exact ⟨h1, hp, fun _ => fun z => h2 ((mem34 p 0 false).mp z), nofun⟩
        · rcases List.mem_cons.mp hu with hu | hu
          · rw [hu]
            exact ⟨ends_quote h3, by simp, nofun, fun _ => ⟨m, rfl, h3, fun z => h4 ((mem34 m 0 false).mp z)⟩⟩
          · exact h5 u hu
theorem fold_tail (l : List Nat) {t : List Nat} (h : (bareP false t).count 34 ≤ 1) (i start : Nat) (rows : List (List Nat)) : ∃ o, (toks i false t).foldl (stripStep l) (start, none, rows) = (start, o, rows) := by
  by_cases h34 : 34 ∈ bareP false t
  · obtain ⟨p, r, e, h1, h2⟩ := split34 t false h34
    have e1 : bareP false t = bareP false p ++ 34 :: bareP false r := by
      rw [e, bareP_append p false _ h1]; congr 1
    have hr : 34 ∉ bareP false r := by
      rw [e1, List.count_append, List.count_cons_self, List.count_eq_zero.mpr h2] at h
      exact List.count_eq_zero.mp (by omega)
    rw [e, toks_append p i false _ h1, List.foldl_append, fold_no34 l (toks i false p) _ (by rw [mem34]; exact h2), toks, if_neg (by decide), List.foldl_cons]
    rw [fold_no34 l (toks (i + p.length + 1) false r) _ (by rw [mem34]; exact hr)]
    exact ⟨some (i + p.length), by simp [stripStep]⟩
  · exact ⟨none, fold_no34 l _ _ (by rw [mem34]; exact h34)⟩
theorem fold_unitsT (l : List Nat) {t : List Nat} (ht1 : (bareP false t).count 34 ≤ 1) : ∀ (us : List Un), (∀ u ∈ us, u.Ok) → ∀ (i start : Nat) (rows : List (List Nat)) (done : List Nat), l.drop i = txt us ++ t → start ≤ i → i ≤ l.length → rows.flatten ++ (l.drop start).take (i - start) = done →
    (stripEnd l ((toks i false (txt us ++ t)).foldl (stripStep l) (start, none, rows))).flatten = done ++ (bareT us ++ t)
  | [], _, i, start, rows, done, h1, h2, h3, h4 => by
    have h1 : l.drop i = t := h1
    show (stripEnd l ((toks i false t).foldl (stripStep l) (start, none, rows))).flatten = done ++ t
    obtain ⟨o, e⟩ := fold_tail l ht1 i start rows
    rw [e, ← h4, ← h1]
    have e1 : (l.drop start).take (i - start) ++ l.drop i = l.drop start := by
      rw [show l.drop i = (l.drop start).drop (i - start) from by rw [List.drop_drop]; congr 1; omega]
      exact List.take_append_drop _ _
    rw [List.append_assoc, e1]
    unfold stripEnd
    split
    · simp
    · rename_i hs
      have : l.drop start = [] := List.drop_eq_nil_of_le (by simpa using hs)
      simp [this]
  | u :: us, hok, i, start, rows, done, h1, h2, h3, h4 => by
    have hu := hok u (.head _)
    have ht : txt (u :: us) ++ t = u.t ++ (txt us ++ t) := by simp [txt]
    rw [ht] at h1 ⊢
    have hlen : u.t.length + (txt us ++ t).length = l.length - i := by
      have := congrArg List.length h1
      simp at this; simp; omega
    have hdrop : l.drop (i + u.t.length) = txt us ++ t := by rw [← List.drop_drop, h1]; simp
    rw [toks_append u.t i false _ hu.ends, List.foldl_append, fold_unit l hu]
    cases hq : u.q with
    | true =>
      rw [if_pos rfl]
      have := fold_unitsT l ht1 us (fun v hv => hok v (.tail _ hv)) (i + u.t.length) (i + u.t.length) (if start ≠ i then rows ++ [(l.drop start).take (i - start)] else rows) done hdrop (Nat.le_refl _) (by omega) (by
        rw [Nat.sub_self, List.take_zero, List.append_nil, ← h4]
        by_cases hs : start = i
        · subst hs; simp
        · rw [if_pos hs]; simp)
      rw [this]
      simp [bareT, hq]
    | false =>
      rw [if_neg (by simp)]
      have htk : (l.drop start).take (i + u.t.length - start) = (l.drop start).take (i - start) ++ u.t := by
        have e1 : l.drop i = (l.drop start).drop (i - start) := by rw [List.drop_drop]; congr 1; omega
        have e2 : i + u.t.length - start = (i - start) + u.t.length := by omega
        rw [e2, List.take_add, ← e1, h1]
        simp
      have := fold_unitsT l ht1 us (fun v hv => hok v (.tail _ hv)) (i + u.t.length) start rows (done ++ u.t) hdrop (by omega) (by omega) (by rw [htk, ← List.append_assoc, h4])
      rw [this]
      simp [bareT, hq]
theorem strip_tail {us : List Un} {t : List Nat} (h : ∀ u ∈ us, u.Ok) (ht : (bareP false t).count 34 ≤ 1) : strip (txt us ++ t) = bareT us ++ t := by
  unfold strip
  split
  · have := fold_unitsT (txt us ++ t) ht us h 0 0 [] [] rfl (Nat.le_refl _) (Nat.zero_le _) (by simp)
    rw [List.nil_append] at this
    exact this
  · rename_i h34
    have : us.filter (fun u => !u.q) = us := List.filter_eq_self.mpr fun u hu => by
      cases hq : u.q with
      | false => rfl
      | true =>
        obtain ⟨m, he, _⟩ := (h u hu).quote hq
        exact absurd (List.mem_append_left t (List.mem_flatten.mpr ⟨u.t, List.mem_map.mpr ⟨u, hu, rfl⟩, by rw [he]; exact .head _⟩)) h34
    unfold bareT txt; rw [this]
end Mine
end
section
open PySem PySem.W PyProof.Rows PySem.Calls
set_option maxRecDepth 100000
namespace Mine
/-- brackets outside closed pairs of marks -/
def restR (m : Nat) : Nat → List Nat → List Nat
  | _, [] => []
  | a, c :: r => if c = 34 then restR m (a + 1) r else if a % 2 = 0 ∨ a = m then c :: restR m a r else restR m a r
theorem restR_keep {m a : Nat} (h : a % 2 = 0 ∨ a = m) : ∀ (p r : List Nat), 34 ∉ p → restR m a (p ++ r) = p ++ restR m a r
  | [], r, _ => rfl
  | c :: p, r, hp => by
    rw [List.mem_cons, not_or] at hp
    show restR m a (c :: (p ++ r)) = _
    rw [restR, if_neg (Ne.symm hp.1), if_pos h, restR_keep h p r hp.2]; rfl
theorem restR_drop {m a : Nat} (h : ¬ (a % 2 = 0 ∨ a = m)) : ∀ (p r : List Nat), 34 ∉ p → restR m a (p ++ r) = restR m a r
  | [], r, _ => rfl
  | c :: p, r, hp => by
    rw [List.mem_cons, not_or] at hp
    show restR m a (c :: (p ++ r)) = _
    rw [restR, if_neg (Ne.symm hp.1), if_neg h, restR_drop h p r hp.2]
theorem restR_snoc (m : Nat) : ∀ (p : List Nat) (a c : Nat), restR m a (p ++ [c]) = restR m a p ++ (if c = 34 then [] else if (a + p.count 34) % 2 = 0 ∨ a + p.count 34 = m then [c] else [])
  | [], a, c => by
    show restR m a [c] = _
    rw [restR]
    by_cases hc : c = 34 <;> by_cases h2 : (a % 2 = 0 ∨ a = m) <;> simp [restR, hc, h2]
  | x :: p, a, c => by
    show restR m a (x :: (p ++ [c])) = _
    rw [restR, restR]
    by_cases hx : x = 34
    · rw [if_pos hx, if_pos hx, restR_snoc m p (a + 1) c, hx, List.count_cons_self]
      rw [show a + 1 + p.count 34 = a + (p.count 34 + 1) by omega]
    · rw [if_neg hx, if_neg hx, restR_snoc m p a c, List.count_cons_of_ne hx]
      split <;> rfl
theorem filter_free {p : List Nat} (h : 34 ∉ p) : p.filter (· != 34) = p := List.filter_eq_self.mpr fun x hx => by
  have : x ≠ 34 := fun e => h (e ▸ hx)
  simpa using this
theorem rest_tail : ∀ (t : List Nat) (k : Nat), t.count 34 ≤ 1 → restR (2 * k + t.count 34) (2 * k) t = t.filter (· != 34)
  | [], k, h => rfl
  | c :: t, k, h => by
    rw [restR]
    by_cases hc : c = 34
    · subst hc
      rw [List.count_cons_self] at h
      have h0 : t.count 34 = 0 := by omega
      have h34 := List.count_eq_zero.mp h0
      rw [if_pos rfl, List.count_cons_self, h0]
      have := restR_keep (m := 2 * k + 1) (a := 2 * k + 1) (.inr rfl) t [] h34
      rw [List.append_nil] at this
      rw [show 2 * k + (0 + 1) = 2 * k + 1 by omega, this]
      rw [List.filter_cons_of_neg (by simp), filter_free h34]; simp [restR]
    · rw [List.count_cons_of_ne hc] at h ⊢
      rw [if_neg hc, if_pos (.inl (by omega)), rest_tail t k h, List.filter_cons_of_pos (by simpa using hc)]
def sigs (us : List Un) : List Nat := (us.map fun u => bareP false u.t).flatten
def sigsB (us : List Un) : List Nat := ((us.filter fun u => !u.q).map fun u => bareP false u.t).flatten
theorem rest_units : ∀ (us : List Un), (∀ u ∈ us, u.Ok) → ∀ (t : List Nat) (k : Nat), t.count 34 ≤ 1 → restR (2 * k + (sigs us ++ t).count 34) (2 * k) (sigs us ++ t) = sigsB us ++ t.filter (· != 34)
  | [], _, t, k, h => rest_tail t k h
  | u :: us, hok, t, k, h => by
    have hu := hok u (.head _)
    have e : sigs (u :: us) ++ t = bareP false u.t ++ (sigs us ++ t) := by simp [sigs]
    rw [e]
    cases hq : u.q with
    | false =>
      have h34 : 34 ∉ bareP false u.t := fun z => hu.plain hq ((mem34 u.t 0 false).mpr z)
      rw [restR_keep (.inl (by omega)) _ _ h34, List.count_append, List.count_eq_zero.mpr h34, Nat.zero_add, rest_units us (fun v hv => hok v (.tail _ hv)) t k h]
      simp [sigsB, hq]
    | true =>
      obtain ⟨m, he, h1, h2⟩ := hu.quote hq
      have h34 : 34 ∉ bareP false m := fun z => h2 ((mem34 m 0 false).mpr z)
      have eb : bareP false u.t = 34 :: (bareP false m ++ [34]) := by rw [he, bare_quote h1]; rfl
      rw [eb]
      show restR _ _ (34 :: ((bareP false m ++ [34]) ++ (sigs us ++ t))) = _
      rw [restR, if_pos rfl, List.append_assoc]
      have hcnt : (34 :: (bareP false m ++ [34]) ++ (sigs us ++ t)).count 34 = 2 + (sigs us ++ t).count 34 := by
        rw [List.cons_append, List.count_cons_self, List.append_assoc, List.count_append, List.count_eq_zero.mpr h34]
        show 0 + List.count 34 (34 :: (sigs us ++ t)) + 1 = _
        rw [List.count_cons_self]; omega
      rw [hcnt, restR_drop (by omega) _ _ h34]
      show restR _ _ (34 :: (sigs us ++ t)) = _
      rw [restR, if_pos rfl, show 2 * k + 1 + 1 = 2 * (k + 1) by omega, show 2 * k + (2 + (sigs us ++ t).count 34) = 2 * (k + 1) + (sigs us ++ t).count 34 by omega, rest_units us (fun v hv => hok v (.tail _ hv)) t (k + 1) h]
      simp [sigsB, hq]
/-- do the brackets take each other away -/
def bal : Nat → List Nat → Bool
  | k, [] => k == 0
  | k, c :: r => if c = 40 then bal (k + 1) r else if c = 41 then (match k with | 0 => false | k + 1 => bal k r) else bal k r
theorem bal_cons (k c : Nat) (r : List Nat) : bal k (c :: r) = if c = 40 then bal (k + 1) r else if c = 41 then (match k with | 0 => false | k + 1 => bal k r) else bal k r := by
  cases k <;> rfl
theorem bal_filter : ∀ (l : List Nat) (k : Nat), bal k (l.filter (· != 34)) = bal k l
  | [], k => rfl
  | c :: r, k => by
    by_cases h : c = 34
    · subst h
      rw [List.filter_cons_of_neg (by simp), bal_filter r k, bal_cons, if_neg (by decide), if_neg (by decide)]
    · rw [List.filter_cons_of_pos (by simpa using h), bal_cons, bal_cons]
      simp only [bal_filter r]
theorem bal_open : ∀ (ts : List (Nat × List Nat)) (k : Nat), (ts.foldl openStep (some (k : Int)) == some 0) = bal k (sig (ts.map (·.2)))
  | [], k => by
    show (some (k : Int) == some 0) = (k == 0)
    rw [Bool.eq_iff_iff]; simp
  | t :: ts, k => by
    rw [List.foldl_cons, List.map_cons]
    obtain ⟨i, w⟩ := t
    by_cases h1 : w = [40]
    · subst h1
      show (ts.foldl openStep (some ((k : Int) + 1)) == some 0) = bal k (40 :: sig (ts.map (·.2)))
      rw [bal_cons, if_pos rfl, ← bal_open ts (k + 1)]; rfl
    · by_cases h2 : w = [41]
      · subst h2
        show (ts.foldl openStep (if (k : Int) - 1 < 0 then none else some ((k : Int) - 1)) == some 0) = bal k (41 :: sig (ts.map (·.2)))
        have e41 : bal k (41 :: sig (ts.map (·.2))) = (match k with | 0 => false | k + 1 => bal k (sig (ts.map (·.2)))) := by rw [bal_cons]; rfl
        rw [e41]
        cases k with
        | zero => rw [if_pos (by decide), openAt_none]; rfl
        | succ k =>
          rw [if_neg (by omega)]
          show _ = bal k (sig (ts.map (·.2)))
          rw [← bal_open ts k]
          congr 3; omega
      · have e : openStep (some (k : Int)) (i, w) = some (k : Int) := by simp [openStep, h1, h2]
        rw [e, bal_open ts k]
        unfold sig
        cases hs : sigOf w with
        | none => rw [List.filterMap_cons_none hs]
        | some c =>
          rw [List.filterMap_cons_some hs]
          have : c = 34 := by
            match w, hs with
            | [d], hs =>
              unfold sigOf at hs
              simp only at hs
              split at hs
              · rename_i hd
                cases hs
                have h1' : c ≠ 40 := fun e => h1 (by rw [e])
                have h2' : c ≠ 41 := fun e => h2 (by rw [e])
                simpa [isSig, h1', h2'] using hd
              · cases hs
          subst this
          rw [bal_cons, if_neg (by decide), if_neg (by decide)]
theorem check_bal (l : List Nat) : check l = bal 0 (bareP false (strip l)) := by
  unfold check sound openAt
  have := bal_open (toks 0 false (strip l)) 0
  rw [sig_toks] at this
  exact this
theorem bareP_txt : ∀ (us : List Un) (t : List Nat), (∀ u ∈ us, u.Ok) → bareP false (txt us ++ t) = sigs us ++ bareP false t
  | [], t, _ => rfl
  | u :: us, t, h => by
    have e : txt (u :: us) ++ t = u.t ++ (txt us ++ t) := by simp [txt]
    rw [e, bareP_append u.t false _ (h u (.head _)).ends, bareP_txt us t fun v hv => h v (.tail _ hv)]
    simp [sigs]
theorem bareP_bareT (us : List Un) (t : List Nat) (h : ∀ u ∈ us, u.Ok) : bareP false (bareT us ++ t) = sigsB us ++ bareP false t :=
  bareP_txt (us.filter fun u => !u.q) t fun u hu => h u (List.mem_filter.mp hu).1
def restOf (l : List Nat) : List Nat := restR ((bareP false l).count 34) 0 (bareP false l)
theorem check_rest (l : List Nat) : check l = bal 0 (restOf l) := by
  obtain ⟨us, t, e, h1, h2⟩ := decomp l.length l (Nat.le_refl _)
  rw [check_bal, e, strip_tail h1 h2, bareP_bareT us t h1]
  unfold restOf
  rw [bareP_txt us t h1]
  have := rest_units us h1 (bareP false t) 0 h2
  simp only [Nat.mul_zero, Nat.zero_add] at this
  rw [this, ← bal_filter, ← bal_filter (sigsB us ++ (bareP false t).filter (· != 34)), List.filter_append, List.filter_append, List.filter_filter]
  simp
def brk (c : Nat) : Prop := c = 40 ∨ c = 41
theorem restR_brk {m : Nat} : ∀ {l : List Nat} {a : Nat}, (∀ c ∈ l, isSig c = true) → ∀ c ∈ restR m a l, brk c
  | [], a, _, c, hc => by cases hc
  | x :: l, a, h, c, hc => by
    have ih := fun a => restR_brk (m := m) (l := l) (a := a) fun c hc => h c (.tail _ hc)
    have hx := h x (.head _)
    rw [restR] at hc
    split at hc
    · exact ih _ c hc
    · rename_i h34
      split at hc
      · rcases List.mem_cons.mp hc with e | e
        · subst e; simp [isSig, h34] at hx; exact hx
        · exact ih _ c e
      · exact ih _ c hc
theorem bareP_sig : ∀ (l : List Nat) (b : Bool), ∀ c ∈ bareP b l, isSig c = true
  | [], b, c, hc => by cases b <;> cases hc
  | x :: l, true, c, hc => bareP_sig l false c (by rw [bareP] at hc; exact hc)
  | x :: l, false, c, hc => by
    rw [bareP] at hc
    split at hc
    · exact bareP_sig l true c hc
    · split at hc
      · rename_i h
        rcases List.mem_cons.mp hc with e | e
        · rw [e]; exact h
        · exact bareP_sig l false c e
      · exact bareP_sig l false c hc
theorem restOf_brk (l : List Nat) : ∀ c ∈ restOf l, brk c := restR_brk (bareP_sig l false)
theorem restR_length {m : Nat} : ∀ (l : List Nat) (a : Nat), (restR m a l).length ≤ l.length
  | [], a => Nat.le_refl _
  | x :: l, a => by
    rw [restR]
    have h1 := restR_length (m := m) l a
    have h2 := restR_length (m := m) l (a + 1)
    split
    · simp; omega
    · split <;> simp <;> omega
theorem bareP_length : ∀ (l : List Nat) (b : Bool), (bareP b l).length ≤ l.length
  | [], b => by cases b <;> simp [bareP]
  | x :: l, true => by rw [bareP]; have := bareP_length l false; simp; omega
  | x :: l, false => by
    rw [bareP]
    have h1 := bareP_length l true
    have h2 := bareP_length l false
    split
    · simp; omega
    · split <;> simp <;> omega
theorem bal_pair : ∀ (p : List Nat) (k : Nat) (r : List Nat), bal k (p ++ 40 :: 41 :: r) = bal k (p ++ r)
  | [], k, r => by
    show bal k (40 :: 41 :: r) = bal k r
    rw [bal_cons, if_pos rfl, bal_cons, if_neg (by decide), if_pos rfl]
  | c :: p, k, r => by
    show bal k (c :: (p ++ 40 :: 41 :: r)) = bal k (c :: (p ++ r))
    rw [bal_cons, bal_cons]
    simp only [bal_pair p]
/-- nothing to take away: empty or unsound -/
theorem bal_stuck : ∀ (r : List Nat) (k : Nat), (∀ c ∈ r, brk c) → (∀ p q, 40 :: r ≠ p ++ 40 :: 41 :: q) → bal (k + 1) r = false
  | [], k, _, _ => by simp [bal]
  | c :: r, k, hb, hn => by
    rcases hb c (.head _) with e | e
    · subst e
      rw [bal_cons, if_pos rfl]
      exact bal_stuck r (k + 1) (fun c hc => hb c (.tail _ hc)) fun p q e => hn (40 :: p) q (by rw [e]; rfl)
    · subst e
      exact absurd rfl (hn [] r)
theorem bal_done {l : List Nat} (hb : ∀ c ∈ l, brk c) (hn : ∀ p q, l ≠ p ++ 40 :: 41 :: q) : bal 0 l = decide (l = []) := by
  match l, hb, hn with
  | [], _, _ => rfl
  | c :: r, hb, hn =>
    rw [show decide (c :: r = []) = false from rfl]
    rcases hb c (.head _) with e | e
    · subst e
      rw [bal_cons, if_pos rfl]
      exact bal_stuck r 0 (fun c hc => hb c (.tail _ hc)) hn
    · subst e
      rw [bal_cons, if_neg (by decide), if_pos rfl]
end Mine
end
section
open PySem PySem.W PyProof.Rows PySem.Calls
set_option maxRecDepth 100000
namespace Mine
open Builtin.Str StrLaws
theorem at_split {l : List Nat} {c : Nat} (h : At (S l) (S [40, 41]) (S l).length c) : l.drop c = 40 :: 41 :: l.drop (c + 2) ∧ c + 2 ≤ l.length := by
  have h1 := h.1
  have h2 := h.2
  rw [subAt_eq] at h2
  have h2 := eq_of_beq h2
  have e : (S [40, 41]).length = 2 := rfl
  rw [e] at h1 h2
  rw [S_length] at h1
  have e2 : (l.drop c).take 2 = [40, 41] := h2
  refine ⟨?_, h1⟩
  have e3 : l.drop c = (l.drop c).take 2 ++ (l.drop c).drop 2 := (List.take_append_drop _ _).symm
  rw [e2, List.drop_drop] at e3
  exact e3
theorem at_of {p q : List Nat} : At (S (p ++ 40 :: 41 :: q)) (S [40, 41]) (S (p ++ 40 :: 41 :: q)).length p.length := by
  refine ⟨?_, ?_⟩
  · rw [S_length]; show p.length + 2 ≤ (p ++ 40 :: 41 :: q).length; rw [List.length_append]; simp only [List.length_cons]; omega
  · rw [subAt_eq]
    show ((p ++ 40 :: 41 :: q).drop p.length).take 2 == [40, 41]
    simp
/-- what striking out pairs leaves -/
structure Struck (l : List Nat) (a k : Nat) (q : List Nat) : Prop where
  bal : ∀ k p, Mine.bal k (p ++ q) = Mine.bal k (p ++ l.drop a)
  len : q.length + 2 * k = l.length - a
  mem : ∀ c ∈ q, c ∈ l
theorem struck_len {q k l a c : Nat} (h : q + 2 * k = l - (c + 2)) (h1 : a ≤ c) (h2 : c + 2 ≤ l) : min (c - a) (l - a) + q + 2 * (k + 1) = l - a := by
  obtain ⟨d, rfl⟩ := Nat.exists_eq_add_of_le h1
  obtain ⟨r, rfl⟩ := Nat.exists_eq_add_of_le h2
  rw [Nat.add_sub_cancel_left] at h
  have e : a + d + 2 + r - a = d + (2 + r) := by rw [Nat.add_assoc, Nat.add_assoc, Nat.add_sub_cancel_left]
  rw [Nat.add_sub_cancel_left, e, Nat.min_eq_left (Nat.le_add_right _ _), ← h, Nat.add_assoc, Nat.mul_succ, Nat.add_comm 2, ← Nat.add_assoc q]
theorem parts_struck (l : List Nat) : ∀ (cuts : List Nat) (a f : Nat), ChainTo (S l) (S [40, 41]) (S l).length a cuts f → ∃ q, Str.join (S []) (partsFrom (S l) 2 a cuts) = S q ∧ Struck l a cuts.length q
  | [], a, f, h => by
    refine ⟨l.drop a, ?_, fun k p => rfl, by simp, fun c hc => List.mem_of_mem_drop hc⟩
    show strSub (S l) a (S l).length = _
    rw [strSub_S, S_length]
    congr 1; rw [List.take_of_length_le (by simp)]
  | c :: r, a, f, h => by
    obtain ⟨h1, h2, h3⟩ := h
    have h3 : ChainTo (S l) (S [40, 41]) (S l).length (c + 2) r f := h3
    obtain ⟨q, e, st⟩ := parts_struck l r (c + 2) f h3
    obtain ⟨e1, hc⟩ := at_split h2
    obtain ⟨x, y, e2⟩ := partsFrom_ne (S l) 2 (c + 2) r
    have ed : l.drop a = (l.drop a).take (c - a) ++ l.drop c := by
      rw [show l.drop c = (l.drop a).drop (c - a) from by rw [List.drop_drop]; congr 1; omega]
      exact (List.take_append_drop _ _).symm
    refine ⟨(l.drop a).take (c - a) ++ q, ?_, fun k p => ?_, ?_, fun d hd => ?_⟩
    · show Str.join (S []) (strSub (S l) a c :: partsFrom (S l) 2 (c + 2) r) = _
      rw [e2] at e ⊢
      show strSub (S l) a c ++ S [] ++ Str.join (S []) (x :: y) = _
      rw [e, strSub_S, S_app, S_app]; simp
    · have e5 : bal k (p ++ l.drop a) = bal k (p ++ (l.drop a).take (c - a) ++ l.drop (c + 2)) := by
        conv => lhs; rw [ed, e1]
        rw [← List.append_assoc, bal_pair]
      rw [e5, ← List.append_assoc, st.bal]
    · rw [List.length_append, List.length_take, List.length_drop, List.length_cons]
      exact struck_len st.len h1 hc
    · rcases List.mem_append.mp hd with hd | hd
      · exact List.mem_of_mem_drop (List.mem_of_mem_take hd)
      · exact st.mem d hd
theorem strike_step (l : List Nat) : ∃ q, Txt.replace (S l) (S [40, 41]) (S []) = S q ∧ (∀ k, bal k q = bal k l) ∧ (∀ c ∈ q, c ∈ l) ∧ (Txt.contains (S l) (S [40, 41]) = true → q.length < l.length) := by
  obtain ⟨f, h⟩ := occ_chain (S l) (S [40, 41]) ((S l).length + 1)
  rcases occ_head (S l) (S [40, 41]) ((S l).length + 1) (by omega) with ⟨h0, hn⟩ | ⟨i, r, h0, ha, _⟩
  · refine ⟨l, ?_, fun _ => rfl, fun _ hc => hc, fun hc => ?_⟩
    · unfold Txt.replace; rw [h0]; rfl
    · obtain ⟨i, h1, h2⟩ := (found_iff _ _).mp hc
      exact absurd ⟨h1, h2⟩ (hn i)
  · obtain ⟨q, e, st⟩ := parts_struck l _ 0 f h
    refine ⟨q, ?_, fun k => ?_, st.mem, fun _ => ?_⟩
    · unfold Txt.replace
      rw [if_neg (by rw [h0]; show ¬ (false || (2 == 0 && true)) = true; decide), partsBetween_eq, glued_eq_join]
      exact e
    · have := st.bal k []
      simpa using this
    · have := st.len
      rw [h0, List.length_cons] at this
      have := at_split ha
      omega
theorem no_pair {l : List Nat} (h : Txt.contains (S l) (S [40, 41]) = false) : ∀ p q, l ≠ p ++ 40 :: 41 :: q := fun p q e => by
  have : Txt.contains (S l) (S [40, 41]) = true := (found_iff _ _).mpr ⟨p.length, by rw [e]; exact at_of.1, by rw [e]; exact at_of.2⟩
  rw [h] at this; cases this
theorem ends_snoc : ∀ (p : List Nat) (b : Bool) (c : Nat), ends b (p ++ [c]) = (!ends b p && c == 92)
  | [], true, c => by simp [ends]
  | [], false, c => by
    show (if c = 92 then ends true [] else ends false []) = _
    by_cases h : c = 92 <;> simp [ends, h]
  | x :: p, true, c => ends_snoc p false c
  | x :: p, false, c => by
    show (if x = 92 then ends true (p ++ [c]) else ends false (p ++ [c])) = (!(if x = 92 then ends true p else ends false p) && c == 92)
    split
    · exact ends_snoc p true c
    · exact ends_snoc p false c
def runOf (l : List Nat) : Nat := (l.takeWhile (· == 92)).length
theorem ends_run : ∀ (p : List Nat), ends false p.reverse = decide (runOf p % 2 = 1)
  | [] => rfl
  | c :: p => by
    rw [List.reverse_cons, ends_snoc, ends_run p]
    unfold runOf
    by_cases h : c = 92
    · rw [List.takeWhile_cons_of_pos (by simpa using h), List.length_cons, h]
      rw [Bool.eq_iff_iff]; simp; omega
    · rw [List.takeWhile_cons_of_neg (by simpa using h)]
      simp [h]
theorem bareP_snoc : ∀ (p : List Nat) (b : Bool) (c : Nat), bareP b (p ++ [c]) = bareP b p ++ (if isSig c && !ends b p then [c] else [])
  | [], true, c => by simp [bareP, ends]
  | [], false, c => by
    show (if c = 92 then bareP true [] else if isSig c then c :: bareP false [] else bareP false []) = _
    by_cases h : c = 92
    · subst h; rfl
    · rw [if_neg h]
      by_cases h2 : isSig c = true <;> simp [bareP, ends, h2]
  | x :: p, true, c => by
    show bareP true (x :: (p ++ [c])) = _
    rw [bareP, bareP, bareP_snoc p false c]; rfl
  | x :: p, false, c => by
    show bareP false (x :: (p ++ [c])) = _
    rw [bareP, bareP, bareP_snoc p true c, bareP_snoc p false c, ends]
    by_cases h : x = 92
    · simp only [if_pos h]
    · simp only [if_neg h]
      split <;> rfl
def ticksF : Nat → List Nat → List Nat
  | _, [] => []
  | a, c :: r => if c = 39 then a :: ticksF (a + 1) r else ticksF (a + 1) r
theorem ticksF_app {p r : List Nat} : ∀ {a : Nat}, 39 ∉ p → ticksF a (p ++ 39 :: r) = (a + p.length) :: ticksF (a + p.length + 1) r := by
  induction p with
  | nil => intro a _; simp [ticksF]
  | cons c p ih =>
    intro a h
    rw [List.mem_cons, not_or] at h
    show ticksF a (c :: (p ++ 39 :: r)) = _
    rw [ticksF, if_neg (Ne.symm h.1), ih h.2]
    simp only [List.length_cons]
    rw [show a + 1 + p.length = a + (p.length + 1) by omega]
theorem ticksF_free {p : List Nat} : ∀ {a : Nat}, 39 ∉ p → ticksF a p = [] := by
  induction p with
  | nil => intro a _; rfl
  | cons c p ih =>
    intro a h
    rw [List.mem_cons, not_or] at h
    rw [ticksF, if_neg (Ne.symm h.1), ih h.2]
theorem split39 : ∀ {l : List Nat}, 39 ∈ l → ∃ p r, l = p ++ 39 :: r ∧ 39 ∉ p
  | c :: l, h => by
    by_cases hc : c = 39
    · exact ⟨[], l, by rw [hc]; rfl, nofun⟩
    · obtain ⟨p, r, e, h2⟩ := split39 (l := l) ((List.mem_cons.mp h).resolve_left (Ne.symm hc))
      exact ⟨c :: p, r, by rw [e]; rfl, fun z => (List.mem_cons.mp z).elim (fun z => hc z.symm) h2⟩
theorem cut_ticks (l : List Nat) : ((ticksF 0 l).length < 2 ∧ (cutN 39 2 l).length ≤ 2) ∨ ∃ t0 t1 r, ticksF 0 l = t0 :: t1 :: r ∧ t0 < l.length ∧ t1 < l.length ∧ t0 < t1 ∧ cutN 39 2 l = [l.take t0, (l.drop (t0 + 1)).take (t1 - (t0 + 1)), l.drop (t1 + 1)] := by
  by_cases h : 39 ∈ l
  · obtain ⟨p, r, e, hp⟩ := split39 h
    rw [e, ticksF_app hp, cutN_app hp]
    by_cases h2 : 39 ∈ r
    · obtain ⟨m, r', e2, hm⟩ := split39 h2
      right
      rw [e2, ticksF_app hm, cutN_app hm, cutN_zero]
      refine ⟨_, _, _, rfl, by simp, by simp; omega, by simp; omega, ?_⟩
      rw [Nat.zero_add]
      have e3 : (p ++ 39 :: (m ++ 39 :: r')).drop (p.length + 1) = m ++ 39 :: r' := by simp
      have e4 : (p ++ 39 :: (m ++ 39 :: r')).drop (p.length + 1 + m.length + 1) = r' := by
        rw [show p.length + 1 + m.length + 1 = (p.length + 1) + (m.length + 1) by omega, ← List.drop_drop, e3]; simp
      rw [e3, e4]
      simp
    · left
      rw [ticksF_free h2, cutN_free h2]; exact ⟨by simp, by simp⟩
  · left
    rw [ticksF_free h, cutN_free h]; exact ⟨by simp, by simp⟩
end Mine
end
section
open PySem PySem.W PyProof.Rows PySem.Calls
set_option maxRecDepth 100000
namespace Mine
namespace L07
open PySem.Challenge
abbrev df (i : Nat) : DefRec := defAt pw_dm0097_07 i
/-- what the functions of the project lean on -/
structure Pj (G : Gr) : Prop where
  len : G.mg "len" = none
  enum : G.mg "enumerate" = none
  iter : ∃ a, FnAt G (df 2) a
  strip : ∃ a, FnAt G (df 3) a
  check : ∃ a, FnAt G (df 4) a
section
variable {G : Gr} {n : Nat} {env : Env} {σ : St}
theorem iter_ok {l : List Nat} {e target : Expr} {p pos : Pos} (T : Pj G) {a : Addr} (F : FnAt G (df 2) a) (hk : env.kindOf (df 2).name = some .globalImplicit) (h : Ev G (n + 1) env σ e (.str (S l)))
    (hns : noStar [e] = true := by rfl) (hplain : (backTo pos (starEach [e] env)).any (·.1) = false := by rfl) (he : starEach [e] env = (false, eval e env) :: starEach [] env := by rfl) :
    EvID G (n + 1) env σ (.Call (.Name (df 2).name p) [e] [] pos) target ((toks 0 false l).map tokD) := by
  refine EvID.gen1 (x := "addr") F hk h rfl (fun env' A' okc g KF HF FE room hKF => ?_) (hns := hns) (hplain := hplain) (he := he)
  have L0 : Lp G n A' okc (fun _ => False) (fun _ => True) (.func (df 2).body env') [] := ⟨room, fun _ _ _ _ _ _ _ => trivial, rfl, rfl⟩
  refine Gs.cons (Gs.assign room L0.stable .int (FE.loc rfl) rfl ?_)
  refine Gs.cons (Gs.assign room L0.stable .bool (FE.loc rfl) rfl ?_)
  refine Gs.cons (Gs.forA (f := pairS "pos" "ch") (es := enumL (signs (S l))) (fun i (b : Bool) => [("addr", .val (.str (S l))), ("pos", .val (.int ((i - 1 : Nat) : Int))), ("escape", .val (.bool b))]) (fun i b => b = true → 0 < i) (fun i b => (toks i b (l.drop i)).map tokD) false L0 rfl nofun ⟨rfl, rfl, rfl, trivial⟩ (fun _ _ => rfl)
    (.enumS (FE.kind rfl) T.enum (.name rfl)) ?_ ?_ ?_ ?_ (fun _ _ _ _ _ _ => trivial))
  · intro d hd
    obtain ⟨i, hi, rfl⟩ := List.mem_map.mp hd
    exact .pair (FE.loc rfl) (FE.loc rfl)
  · intro d i p
    unfold pairS
    split <;> rfl
  · intro c' fs' FR' Res' KL HL i d b L hd hb next
    obtain ⟨e', he', rfl⟩ := enumL_get.mp hd
    have hc : ∃ c, l[i]? = some c ∧ e' = .str (S [c]) := by
      simp only [signs, List.getElem?_map, Option.map_eq_some_iff] at he'
      obtain ⟨c, hc, rfl⟩ := he'
      exact ⟨c, hc, rfl⟩
    obtain ⟨c, hc, rfl⟩ := hc
    have hlt : i < l.length := (List.getElem?_eq_some_iff.mp hc).1
    have hdrop : l.drop i = c :: l.drop (i + 1) := by
      rw [List.drop_eq_getElem_cons hlt]; congr 1
      exact (List.getElem?_eq_some_iff.mp hc).2
    rw [hdrop]
    cases b with
    | true =>
      refine Gs.cons (Gs.ite L.room L.stable (Tr.plain (Ev.name rfl).b .bool) (fun _ => ?_) nofun)
      refine Gs.cons (Gs.yield (σ' := [("addr", .val (.str (S l))), ("pos", .val (.int i)), ("ch", .val (.str (S [c]))), ("escape", .val (.bool true))]) (d := tokD (i, [92, c])) L.room L.stable L.split rfl L.quiet ((Ev.tuple (.cons (.name rfl) (.cons (.binop .str (.name rfl) (.add_str (sz (by simp [S_length]; decide)))) .nil)) (sz (by simp))).cast rfl) ⟨rfl, rfl, rfl, rfl, trivial⟩ rfl (by rw [FE.scope]; rfl) ?_)
      refine Gs.cons (Gs.assign L.room L.stable .bool (FE.loc rfl) rfl ?_)
      exact Gs.nil (Gs.nil ((next false nofun).of ⟨rfl, rfl, rfl, trivial⟩))
    | false =>
      refine Gs.cons (Gs.ite L.room L.stable (Tr.plain (Ev.name rfl).b .bool) nofun (fun _ => ?_))
      by_cases h92 : c = 92
      · subst h92
        refine Gs.cons (Gs.ite (x := true) L.room L.stable ((Tr.cmp (Ev.name rfl).b Ev.str.b .eq_str).cast rfl) (fun _ => ?_) nofun)
        refine Gs.cons (Gs.assign L.room L.stable .bool (FE.loc rfl) rfl ?_)
        have : (toks i false (92 :: l.drop (i + 1))).map tokD = (toks (i + 1) true (l.drop (i + 1))).map tokD := by rw [toks, if_pos rfl]
        rw [this]
        exact Gs.nil (Gs.nil (Gs.nil ((next true fun _ => Nat.succ_pos _).of ⟨rfl, rfl, rfl, trivial⟩)))
      · refine Gs.cons (Gs.ite (x := false) L.room L.stable ((Tr.cmp (Ev.name rfl).b Ev.str.b .eq_str).cast (by
          rw [show (Str.ofString "\\") = S [92] from rfl]; simp [S_inj, h92])) nofun (fun _ => ?_))
        have : (toks i false (c :: l.drop (i + 1))).map tokD = tokD (i, [c]) :: (toks (i + 1) false (l.drop (i + 1))).map tokD := by rw [toks, if_neg h92]; rfl
        rw [this]
        refine Gs.cons (Gs.yield (σ' := [("addr", .val (.str (S l))), ("pos", .val (.int i)), ("ch", .val (.str (S [c]))), ("escape", .val (.bool false))]) L.room L.stable L.split rfl L.quiet ((Ev.tuple (.cons (.name rfl) (.cons (.name rfl) .nil)) (sz (by simp))).cast rfl) ⟨rfl, rfl, rfl, rfl, trivial⟩ rfl (by rw [FE.scope]; rfl) ?_)
        exact Gs.nil (Gs.nil (Gs.nil ((next false nofun).of ⟨rfl, rfl, rfl, trivial⟩)))
  · intro b hb
    have hlen : (enumL (signs (S l))).length = l.length := by rw [enumL_length]; simp [signs]
    rw [hlen, List.drop_length]
    cases b with
    | true =>
      refine Gs.cons (Gs.ite room L0.stable (Tr.plain (Ev.name rfl).b .bool) (fun _ => ?_) nofun)
      refine Gs.cons (Gs.yield (σ' := []) room L0.stable rfl rfl rfl ((Ev.tuple (.cons (.name rfl) (.cons .str .nil)) (sz (by simp))).cast rfl) trivial rfl (by rw [FE.scope]; rfl) ?_)
      exact Gs.nil (Gs.nil (Gs.fin hKF))
    | false =>
      refine Gs.cons (Gs.ite room L0.stable (Tr.plain (Ev.name rfl).b .bool) nofun (fun _ => ?_))
      exact Gs.nil (Gs.nil (Gs.fin hKF))
end
end L07
end Mine
end
section
open PySem PySem.W PyProof.Rows PySem.Calls
set_option maxRecDepth 100000
namespace Mine
namespace L07
open PySem.Challenge
section
variable {G : Gr} {n : Nat} {env : Env} {σ : St}
def optD : Option Nat → D
  | none => .none
  | some k => .int (k : Nat)
def rowsD (ps : List (List Nat)) : List D := ps.map fun p => .str (S p)
theorem has34 (l : List Nat) : Txt.contains (S l) (S [34]) = decide (34 ∈ l) := contains_one l 34
set_option maxHeartbeats 4000000 in
theorem strip_ok {l : List Nat} (T : Pj G) (hl : l.length ≤ 3000) {a : Addr} (F : FnAt G (df 3) a) : CallD G (n + 2) (.ref a) [.str (S l)] (.str (S (strip l))) := by
  obtain ⟨ai, FI⟩ := T.iter
  refine CallD.fn1 (x := "addr") F (fun env FE => ?_)
  by_cases h34 : 34 ∈ l
  case neg =>
    refine Ex.cons (Ex1.ite (c := true) ((Tr.cmp Ev.str.b (Ev.name rfl).b .notIn_str).cast (by rw [show (Str.ofString "\"") = S [34] from rfl, has34]; simp [h34])) (fun _ => ?_) nofun)
    exact Ex.cons (Ex1.ret (Ev.name rfl).b (by rw [strip, if_neg h34]))
  refine Ex.cons (Ex1.ite (c := false) ((Tr.cmp Ev.str.b (Ev.name rfl).b .notIn_str).cast (by rw [show (Str.ofString "\"") = S [34] from rfl, has34]; simp [h34])) nofun (fun _ => Ex.nil ?_))
  refine Ex.one (Ex1.assign .int (FE.loc rfl)) ?_
  refine Ex.one (Ex1.assign .none (FE.loc rfl)) ?_
  refine Ex.step (Ex1.assignF (EvF.list .nil (by decide)) (FE.loc rfl)) ?_
  rintro _ ⟨a₀, rfl⟩
  have htl := toks_length l 0 false
  generalize hts : toks 0 false l = ts at htl
  refine Ex.forDJ (ι := Addr) (f := pairS "pos" "ch") (ds := ts.map tokD) (fun i a => [("addr", .val (.str (S l))), ("start", .val (.int ((stripAt l (ts.take i)).1 : Nat))), ("open_pos", .val (optD (stripAt l (ts.take i)).2.1)), ("result", .own a (rowsD (stripAt l (ts.take i)).2.2))]) (fun _ _ => True) a₀ trivial ⟨rfl, rfl, rfl, rfl, trivial⟩ (fun _ _ => by simp; decide)
    (by rw [← hts]; exact iter_ok T FI (FE.kind rfl) (.name rfl)) ?_ ?_ ?_
  · intro d hd
    obtain ⟨t, _, rfl⟩ := List.mem_map.mp hd
    exact .pair (FE.loc rfl) (FE.loc rfl)
  · intro i d p hd _
    rw [List.getElem?_map] at hd
    obtain ⟨t, ht, rfl⟩ := Option.map_eq_some_iff.mp hd
    have hlt : i < ts.length := (List.getElem?_eq_some_iff.mp ht).1
    have htk : ts.take (i + 1) = ts.take i ++ [t] := by rw [List.take_add_one, ht]; rfl
    have hrow := stripAt_rows l (ts.take i)
    rw [List.length_take] at hrow
    rw [htk, stripAt_snoc]
    generalize stripAt l (ts.take i) = st at *
    obtain ⟨start, op, rows⟩ := st
    dsimp only at hrow
    obtain ⟨ps, ch⟩ := t
    by_cases hch : ch = [34]
    · subst hch
      refine Ex.cons (Ex1.ite (c := true) ((Tr.cmp (Ev.name rfl).b Ev.str.b .eq_str).cast rfl) (fun _ => ?_) nofun)
      cases op with
      | none =>
        refine Ex.cons (Ex1.ite (c := true) ((Tr.cmp (Ev.name rfl).b Ev.none.b .none_is)) (fun _ => ?_) nofun)
        exact Ex.one (Ex1.assign (.name rfl) (FE.loc rfl)) (Ex.nil (Ex.nil (Ex.nil ⟨p, trivial, rfl, rfl, rfl, rfl, trivial⟩)))
      | some o =>
        refine Ex.cons (Ex1.ite (c := false) ((Tr.cmp (Ev.name rfl).b Ev.none.b .int_is)) nofun (fun _ => ?_))
        by_cases hso : start = o
        · subst hso
          refine Ex.cons (Ex1.ite (c := false) ((Tr.cmp (Ev.name rfl).b (Ev.name rfl).b .ne_int).cast (by simp)) nofun (fun _ => Ex.nil ?_))
          refine Ex.one (Ex1.assign (.binop (.name rfl) .int .add) (FE.loc rfl)) ?_
          refine Ex.one (Ex1.assign .none (FE.loc rfl)) (Ex.nil (Ex.nil (Ex.nil ⟨p, trivial, rfl, ?_, rfl, ?_, trivial⟩)))
          · rfl
          · simp [stripStep]; rfl
        · refine Ex.cons (Ex1.ite (c := true) ((Tr.cmp (Ev.name rfl).b (Ev.name rfl).b .ne_int).cast (by simp; omega)) (fun _ => ?_) nofun)
          refine Ex.one (Ex1.append rfl ((Ev.itemS (.name rfl) (.slice (.some (.name rfl)) (.some (.name rfl)) .none) (.sliceS rfl rfl rfl nofun (sz (by rw [S_length]; omega)))).cast (d' := .str (S ((l.drop start).take (o - start)))) ?_) (by unfold sizeLine; simp [rowsD]; omega)) (Ex.nil ?_)
          · show D.str (sliceStr (S l) (some (start : Int)) (some (o : Int)) none) = _
            unfold sliceStr
            rw [pickD_run]
          refine Ex.one (Ex1.assign (.binop (.name rfl) .int .add) (FE.loc rfl)) ?_
          refine Ex.one (Ex1.assign .none (FE.loc rfl)) (Ex.nil (Ex.nil (Ex.nil ⟨p, trivial, rfl, ?_, rfl, ?_, trivial⟩)))
          · rfl
          · simp [stripStep, hso, rowsD]; rfl
    · refine Ex.cons (Ex1.ite (c := false) ((Tr.cmp (Ev.name rfl).b Ev.str.b .eq_str).cast (by rw [show (Str.ofString "\"") = S [34] from rfl]; simp [S_inj, hch])) nofun (fun _ => Ex.nil (Ex.nil ⟨p, trivial, ?_⟩)))
      have : stripStep l (start, op, rows) (ps, ch) = (start, op, rows) := by simp [stripStep, hch]
      rw [this]
      exact ⟨rfl, rfl, rfl, rfl, trivial⟩
  · intro p _
    rw [List.length_map, List.take_length]
    have hrow := stripEnd_rows l
    have hat := stripAt_rows l ts
    rw [hts] at hrow
    have hst : strip l = (stripEnd l (stripAt l ts)).flatten := by rw [strip, if_pos h34, hts]
    rw [hst]
    generalize stripAt l ts = st at *
    obtain ⟨start, op, rows⟩ := st
    dsimp only at hat
    have fin : ∀ {ps : List (List Nat)}, ps.length ≤ l.length + 2 → (∀ q ∈ ps, q.length ≤ l.length) → JoinOk (S []) (ps.map S) = true := fun h1 h2 => joinOk_none (by
      have := flatten_le h2
      refine Nat.le_trans this (sz ?_)
      exact Nat.le_trans (Nat.mul_le_mul h1 (Nat.le_refl _)) (Nat.le_trans (Nat.mul_le_mul (by omega : l.length + 2 ≤ 4000) (by omega : l.length ≤ 4000)) (by decide)))
    by_cases hs : start < l.length
    · refine Ex.cons (Ex1.ite (c := true) ((Tr.cmp (Ev.name rfl).b (Ev.call (.builtin (FE.kind rfl) T.len rfl) (.builtin _) (.cons (.name rfl) .nil) (.len_str (by rw [S_length]; omega))).b .lt_int).cast (by rw [S_length]; simp; omega)) (fun _ => ?_) nofun)
      refine Ex.one (Ex1.append rfl ((Ev.itemS (.name rfl) (.slice (.some (.name rfl)) .none .none) (.sliceS rfl rfl rfl nofun (sz (by rw [S_length]; omega)))).cast (d' := .str (S (l.drop start))) ?_) (by unfold sizeLine; simp [rowsD]; omega)) (Ex.nil ?_)
      · show D.str (sliceStr (S l) (some (start : Int)) none none) = _
        unfold sliceStr
        rw [pickD_from]
      have he : stripEnd l (start, op, rows) = rows ++ [l.drop start] := by simp [stripEnd, hs]
      rw [he] at hrow ⊢
      refine Ex.cons (Ex1.ret ((Ev.methB (ds := [.list (((rows ++ [l.drop start]).map S).map .str)]) Ev.str.b .join (.builtin _) (.cons ((EvB.own rfl).castB (by simp [rowsD])) .nil) (.join (fin hrow.1 hrow.2)) rfl).cast (by rw [join_none])).b rfl)
    · refine Ex.cons (Ex1.ite (c := false) ((Tr.cmp (Ev.name rfl).b (Ev.call (.builtin (FE.kind rfl) T.len rfl) (.builtin _) (.cons (.name rfl) .nil) (.len_str (by rw [S_length]; omega))).b .lt_int).cast (by rw [S_length]; simp; omega)) nofun (fun _ => Ex.nil ?_))
      have he : stripEnd l (start, op, rows) = rows := by simp [stripEnd, hs]
      rw [he] at hrow ⊢
      refine Ex.cons (Ex1.ret ((Ev.methB (ds := [.list ((rows.map S).map .str)]) Ev.str.b .join (.builtin _) (.cons ((EvB.own rfl).castB (by simp [rowsD])) .nil) (.join (fin hrow.1 hrow.2)) rfl).cast (by rw [join_none])).b rfl)
set_option maxHeartbeats 4000000 in
theorem check_ok {l : List Nat} (T : Pj G) (hl : l.length ≤ 3000) {a : Addr} (F : FnAt G (df 4) a) : CallD G (n + 3) (.ref a) [.str (S l)] (.bool (check l)) := by
  obtain ⟨ai, FI⟩ := T.iter
  obtain ⟨as, FS⟩ := T.strip
  refine CallD.fn1 (x := "addr") F (fun env FE => ?_)
  refine Ex.one (Ex1.assign (.call (fn_ev FS (FE.kind rfl)) FS.callee (.cons (.name rfl) .nil) (strip_ok T hl FS)) (FE.loc rfl)) ?_
  refine Ex.one (Ex1.assign .int (FE.loc rfl)) ?_
  unfold check
  generalize strip l = m
  have htl := toks_length m 0 false
  unfold sound
  generalize hts : toks 0 false m = ts at htl
  refine Ex.forDJ (ι := Int) (f := pairS "pos" "ch") (ds := ts.map tokD) (fun i k => [("addr", .val (.str (S m))), ("opens", .val (.int k))]) (fun i k => openAt (ts.take i) = some k) 0 rfl ⟨rfl, rfl, trivial⟩ (fun _ _ => by simp; decide)
    (by rw [← hts]; exact iter_ok T FI (FE.kind rfl) (.name rfl)) ?_ ?_ ?_
  · intro d hd
    obtain ⟨t, _, rfl⟩ := List.mem_map.mp hd
    exact .pair (FE.loc rfl) (FE.loc rfl)
  · intro i d k hd hk
    rw [List.getElem?_map] at hd
    obtain ⟨t, ht, rfl⟩ := Option.map_eq_some_iff.mp hd
    have hlt : i < ts.length := (List.getElem?_eq_some_iff.mp ht).1
    have htk : ts.take (i + 1) = ts.take i ++ [t] := by rw [List.take_add_one, ht]; rfl
    have hsplit : ts = ts.take i ++ t :: ts.drop (i + 1) := by
      conv => lhs; rw [← List.take_append_drop i ts]
      rw [List.drop_eq_getElem_cons hlt]
      congr 2
      exact (List.getElem?_eq_some_iff.mp ht).2
    rw [htk, openAt_snoc, hk]
    obtain ⟨ps, ch⟩ := t
    by_cases h40 : ch = [40]
    · subst h40
      refine Ex.cons (Ex1.ite (c := true) ((Tr.cmp (Ev.name rfl).b Ev.str.b .eq_str).cast rfl) (fun _ => ?_) nofun)
      exact Ex.one (Ex1.aug rfl .int (FE.loc rfl) (.inl ⟨rfl, rfl⟩)) (Ex.nil (Ex.nil ⟨k + 1, by simp [openStep], rfl, rfl, trivial⟩))
    · refine Ex.cons (Ex1.ite (c := false) ((Tr.cmp (Ev.name rfl).b Ev.str.b .eq_str).cast (by rw [show (Str.ofString "(") = S [40] from rfl]; simp [S_inj, h40])) nofun (fun _ => ?_))
      by_cases h41 : ch = [41]
      · subst h41
        refine Ex.cons (Ex1.ite (c := true) ((Tr.cmp (Ev.name rfl).b Ev.str.b .eq_str).cast rfl) (fun _ => ?_) nofun)
        refine Ex.one (Ex1.aug rfl .int (FE.loc rfl) (.inr ⟨rfl, rfl⟩)) ?_
        by_cases hneg : k - 1 < 0
        · refine Ex.cons (Ex1.ite (c := true) ((Tr.cmp (Ev.name rfl).b Ev.int.b .lt_int).cast (by simp; omega)) (fun _ => ?_) nofun)
          refine Ex.cons (Ex1.ret Ev.bool.b ?_)
          show Fl.ret (.bool false) = Fl.ret (.bool (openAt ts == some 0))
          have : openAt ts = none := by
            rw [hsplit]
            unfold openAt
            rw [List.foldl_append, List.foldl_cons]
            have : List.foldl openStep (some 0) (ts.take i) = some k := hk
            rw [this, show openStep (some k) (ps, [41]) = none by simp [openStep, hneg]]
            exact openAt_none _
          rw [this]; rfl
        · refine Ex.cons (Ex1.ite (c := false) ((Tr.cmp (Ev.name rfl).b Ev.int.b .lt_int).cast (by simp; omega)) nofun (fun _ => Ex.nil (Ex.nil (Ex.nil (Ex.nil ⟨k - 1, ?_, rfl, rfl, trivial⟩)))))
          simp [openStep]; omega
      · refine Ex.cons (Ex1.ite (c := false) ((Tr.cmp (Ev.name rfl).b Ev.str.b .eq_str).cast (by rw [show (Str.ofString ")") = S [41] from rfl]; simp [S_inj, h41])) nofun (fun _ => Ex.nil (Ex.nil (Ex.nil ⟨k, ?_, rfl, rfl, trivial⟩))))
        simp [openStep, h40, h41]
  · intro k hk
    rw [List.length_map, List.take_length] at hk
    refine Ex.cons (Ex1.ret ((Ev.cmp (Ev.name rfl).b Ev.int.b .eq_int)).b ?_)
    rw [hk]
    show Fl.ret (.bool (k == 0)) = Fl.ret (.bool (some k == some 0))
    rfl
set_option maxHeartbeats 4000000 in
theorem pre_ok {d : D} {ls : List (List Nat)} (T : Pj G) (hl : ∀ l ∈ ls, l.length ≤ 3000) (hn : ls.length ≤ 100000) (hd : IterD G (n + 3) d (rowsD ls)) {a : Addr} (F : FnAt G (df 5) a) : CallD G (n + 4) (.ref a) [d] (.list (rowsD (ls.map pre))) := by
  obtain ⟨ac, FC⟩ := T.check
  refine CallD.fn1 (x := "email_header_fields") F (fun env FE => ?_)
  refine Ex.step (Ex1.assignF (EvF.list .nil (by decide)) (FE.loc rfl)) ?_
  rintro _ ⟨a₀, rfl⟩
  refine Ex.forS (f := fun d => setS "v" (.val d)) (ds := rowsD ls) (fun i a => [("email_header_fields", .val d), ("accepted_values", .own a (rowsD ((ls.take i).map pre)))]) a₀ ⟨rfl, rfl, trivial⟩ (fun _ _ => by simp; decide)
    (.of_ev (.name rfl) hd) (fun d _ => .name (FE.loc rfl)) ?_ ?_
  · intro i d p hd
    unfold rowsD at hd
    rw [List.getElem?_map] at hd
    obtain ⟨l, hl', rfl⟩ := Option.map_eq_some_iff.mp hd
    have hlt : i < ls.length := (List.getElem?_eq_some_iff.mp hl').1
    have htk : ls.take (i + 1) = ls.take i ++ [l] := by rw [List.take_add_one, hl']; rfl
    have h3 := hl l (List.mem_of_getElem? hl')
    have hrow : rowsD ((ls.take (i + 1)).map pre) = rowsD ((ls.take i).map pre) ++ [.str (S (pre l))] := by rw [htk]; simp [rowsD]
    rw [hrow]
    have hz : (rowsD ((ls.take i).map pre)).length < sizeLine := by simp only [rowsD, List.length_map, List.length_take]; unfold sizeLine; omega
    cases hc : check l with
    | true =>
      have hp : pre l = l := by simp [pre, hc]
      refine Ex.cons (Ex1.ite (c := false) ((Tr.not (Tr.plain (Ev.call (fn_ev FC (FE.kind rfl)) FC.callee (.cons (.name rfl) .nil) (check_ok T h3 FC)).b .bool)).cast (by rw [hc]; rfl)) nofun (fun _ => Ex.nil ?_))
      exact Ex.one (Ex1.append rfl (.name rfl) hz) (Ex.nil ⟨p, rfl, by rw [hp]; rfl, trivial⟩)
    | false =>
      have hp : pre l = bad := by simp [pre, hc]
      refine Ex.cons (Ex1.ite (c := true) ((Tr.not (Tr.plain (Ev.call (fn_ev FC (FE.kind rfl)) FC.callee (.cons (.name rfl) .nil) (check_ok T h3 FC)).b .bool)).cast (by rw [hc]; rfl)) (fun _ => ?_) nofun)
      refine Ex.one (Ex1.assign .str (FE.loc rfl)) (Ex.nil ?_)
      exact Ex.one (Ex1.append rfl (.name rfl) hz) (Ex.nil ⟨p, rfl, by rw [hp]; rfl, trivial⟩)
  · intro p
    refine Ex.cons (Ex1.ret (EvB.own rfl) ?_)
    rw [show (rowsD ls).length = ls.length by simp [rowsD], List.take_length]
end
end L07
end Mine
end
section
open PySem PySem.W PyProof.Rows PySem.Calls
set_option maxRecDepth 100000
namespace Mine
namespace L07
open PySem.Challenge
structure Tp (G : Gr) : Prop extends Pj G where
  tick : ∃ t, G.mg "TICK" = some (.str "'" t)
  chr : G.mg "chr" = none
  list : G.mg "list" = none
  tuple : G.mg "tuple" = none
  zip : G.mg "zip" = none
  bytes : G.mg "bytes" = none
  str : G.mg "str" = none
  ae : G.mg "AttributeError" = none
  te : G.mg "TypeError" = none
  preF : ∃ a, FnAt G (df 5) a
  decode : ∃ a, FnAt G (df 6) a
  behind : ∃ a, FnAt G (df 8) a
  soundF : ∃ a, FnAt G (df 9) a
  parted : ∃ a, FnAt G (df 10) a
  sign : ∃ a, FnAt G (df 11) a
  fault : ∃ a, FnAt G (df 12) a
theorem Tp.grow {G : Gr} {b : Heap} {k : G.base.StaysIn b} (T : Tp G) : Tp (G.grow b k) :=
  { len := T.len, enum := T.enum, iter := T.iter.imp fun _ F => F.grow, strip := T.strip.imp fun _ F => F.grow, check := T.check.imp fun _ F => F.grow, tick := T.tick, chr := T.chr, list := T.list, tuple := T.tuple, zip := T.zip, bytes := T.bytes, str := T.str, ae := T.ae, te := T.te,
    preF := T.preF.imp fun _ F => F.grow, decode := T.decode.imp fun _ F => F.grow, behind := T.behind.imp fun _ F => F.grow, soundF := T.soundF.imp fun _ F => F.grow, parted := T.parted.imp fun _ F => F.grow, sign := T.sign.imp fun _ F => F.grow, fault := T.fault.imp fun _ F => F.grow }
section
variable {G : Gr} {n : Nat} {env : Env} {σ : St}
def dec (l : List Nat) : D := if (cutN 39 2 l).length ≤ 2 then .tuple [.none, .none, .str (S l)] else .list ((cutN 39 2 l).map fun p => .str (S p))
theorem decode_ok {l : List Nat} (T : Tp G) (hx : l.length ≤ 1000) (hl : (cutN 39 2 l).length ≤ 1000) {a : Addr} (F : FnAt G (df 6) a) : CallD G (n + 1) (.ref a) [.str (S l)] (dec l) := by
  refine CallD.fn1 (x := "s") F (fun env FE => ?_)
  obtain ⟨t, ht⟩ := T.tick
  have hz : (S l).length + 2 ≤ sizeLine := by rw [S_length]; unfold sizeLine; omega
  refine Ex.one (Ex1.assign ((Ev.meth (.name rfl) .split (.builtin _) (.cons (.global (d := .str ⟨#[39]⟩) (FE.kind rfl) ht fun _ _ => .str _ _) (.cons .int .nil)) (.split rfl (by decide) (by decide) hz)).cast (d' := .list ((cutN 39 2 l).map fun p => .str (S p)))
    (by rw [show (2 : Int) = ((2 : Nat) : Int) from rfl, splitMax_one (by decide), List.map_map]; rfl)) (FE.loc rfl)) ?_
  refine Ex.cons (Ex1.ite (Tr.cmp (Ev.call (.builtin (FE.kind rfl) T.len rfl) (.builtin _) (.cons (.name rfl) .nil) (.len_list (by simp; omega))).b Ev.int.b .le_int) (fun h => ?_) (fun h => ?_))
  · refine Ex.cons (Ex1.ret (Ev.tuple (.cons .none (.cons .none (.cons (.name rfl) .nil))) (by unfold sizeLine; simp)).b ?_)
    rw [dec, if_pos]
    have : ((cutN 39 2 l).length : Int) ≤ 2 := by simpa using h
    omega
  · refine Ex.nil ?_
    refine Ex.cons (Ex1.ret (Ev.name rfl).b ?_)
    rw [dec, if_neg]
    have : (2 : Int) < ((cutN 39 2 l).length) := by simpa using h
    omega
theorem decode_miss {d : D} {X : String} {msg : Str} (hm : ∀ H, MethX G n H d "split" X msg) {a : Addr} (F : FnAt G (df 6) a) : CallX G (n + 1) (.ref a) [d] X msg :=
  CallX.fn1 (x := "s") F fun env l FE => ExX.head (ExX1.assign (EvX.methM rdS (.name rfl) (hm _)))
theorem decode_bytes {b : Array UInt8} (T : Tp G) {a : Addr} (F : FnAt G (df 6) a) : CallX G (n + 1) (.ref a) [.bytes b] "TypeError" "a bytes-like object is required, not 'str'" := by
  obtain ⟨t, ht⟩ := T.tick
  exact CallX.fn1 (x := "s") F fun env l FE => ExX.head (ExX1.assign (EvX.meth rdS tellsS (.name rfl) .bytes_split (.builtin _) (.cons (.global (d := .str ⟨#[39]⟩) (FE.kind rfl) ht fun _ _ => .str _ _) (.cons .int .nil)) (.bytes_split (by decide) (by decide))))
theorem fault_attr {d : D} {K : String} (T : Tp G) (hm : ∀ H, MethX G n H d "split" "AttributeError" (attrWords K "split")) (hz : ("AttributeError: " : Str).length + (attrWords K "split").length ≤ sizeLine) {a : Addr} (F : FnAt G (df 12) a) :
    CallP G (n + 2) (.ref a) [d] (.str ("AttributeError: " ++ attrWords K "split")) := by
  obtain ⟨aD, FD⟩ := T.decode
  refine CallP.fn1 (x := "value") F (fun env l FE => ?_)
  refine ExP.cons rdS (ExP1.tryRet (EvX.call rdS tellsS (fn_ev FD (FE.kind rfl)) FD.callee (.cons rdS (.of (.name rfl)) .nil) (decode_miss hm FD)) ?_ rfl)
  exact Hand.take (FE.kind rfl) T.ae rfl (FE.kind rfl) sub_ae_be meta_ae sub_ae_ae (EvH.add EvH.str (EvH.strOf excS_AttributeError (FE.kind rfl) T.str rfl (by rw [FE.scope]; rfl)) hz)
theorem fault_bytes {b : Array UInt8} (T : Tp G) {a : Addr} (F : FnAt G (df 12) a) :
    CallP G (n + 2) (.ref a) [.bytes b] (.str ("TypeError: " ++ "a bytes-like object is required, not 'str'")) := by
  obtain ⟨aD, FD⟩ := T.decode
  refine CallP.fn1 (x := "value") F (fun env l FE => ?_)
  refine ExP.cons rdS (ExP1.tryRet (EvX.call rdS tellsS (fn_ev FD (FE.kind rfl)) FD.callee (.cons rdS (.of (.name rfl)) .nil) (decode_bytes T FD)) ?_ rfl)
  refine Hand.skip (FE.kind rfl) T.ae rfl ⟨_, rfl⟩ sub_ae_be meta_ae sub_te_ae ?_
  exact Hand.take (FE.kind rfl) T.te rfl (FE.kind rfl) sub_te_be meta_te sub_te_te (EvH.add EvH.str (EvH.strOf excS_TypeError (FE.kind rfl) T.str rfl (by rw [FE.scope]; rfl)) (by decide))
end
end L07
end Mine
end
section
open PySem PySem.W PyProof.Rows PySem.Calls
set_option maxRecDepth 100000
namespace Mine
namespace L07
open PySem.Challenge
section
variable {G : Gr} {n : Nat} {env : Env} {σ : St}
theorem run_le (q : List Nat) : runOf q ≤ q.length := by
  unfold runOf; exact (List.takeWhile_sublist _).length_le
theorem run_test : ∀ (q : List Nat) (r : Nat), r ≤ runOf q → (r < runOf q ↔ q[r]? = some 92)
  | [], r, h => by
    have : r = 0 := by simpa [runOf] using h
    subst this
    simp [runOf]
  | c :: q, r, h => by
    by_cases hc : c = 92
    · have e : runOf (c :: q) = runOf q + 1 := by unfold runOf; rw [List.takeWhile_cons_of_pos (by simpa using hc)]; rfl
      rw [e] at h ⊢
      cases r with
      | zero => simp [hc]
      | succ r =>
        have := run_test q r (by omega)
        simp only [List.getElem?_cons_succ]
        rw [← this]; omega
    · have e : runOf (c :: q) = 0 := by unfold runOf; rw [List.takeWhile_cons_of_neg (by simpa using hc)]; rfl
      rw [e] at h ⊢
      have : r = 0 := by omega
      subst this
      simp [hc]
theorem rev_at {l : List Nat} {k r : Nat} (hk : k < l.length) (h : r < k) : (l.take k).reverse[r]? = l[k - 1 - r]? := by
  have e : (l.take k).length = k := by rw [List.length_take, Nat.min_eq_left (Nat.le_of_lt hk)]
  rw [List.getElem?_reverse (by rw [e]; exact h), e, List.getElem?_take_of_lt (by omega)]
theorem at_ix {k r : Nat} (h : r < k) : ((k : Int) - 1 - (r : Int)) = ((k - 1 - r : Nat) : Int) := by omega
theorem chr_ev {e : Expr} {p q : Pos} {i : Int} (T : Tp G) (hk : env.kindOf "chr" = some .globalImplicit) (h : Ev G n env σ e (.int i)) (h4 : 0 ≤ i) (h5 : i ≤ 1114111)
    (he : starEach [e] env = (false, eval e env) :: starEach [] env := by rfl) (h2 : noStar [e] = true := by rfl) (h3 : (backTo q (starEach [e] env)).any (·.1) = false := by rfl) : Ev G n env σ (.Call (.Name "chr" p) [e] [] q) (.str (S [i.toNat])) :=
  Ev.call (.builtin hk T.chr rfl) (.builtin _) (.cons h .nil he) (CallD.chr h4 h5) h2 h3
set_option maxHeartbeats 1000000 in
theorem behind_ok {l : List Nat} {k : Nat} (T : Tp G) (hx : l.length ≤ 3000) (hk : k < l.length) {a : Addr} (F : FnAt G (df 8) a) : CallD G (n + 1) (.ref a) [.str (S l), .int (k : Nat)] (.bool (ends false (l.take k))) := by
  refine CallD.fn2 (x := "text") (y := "place") F (fun env FE => ?_)
  refine Ex.one (Ex1.assign .int (FE.loc rfl)) ?_
  have hrl := run_le (l.take k).reverse
  rw [List.length_reverse, List.length_take] at hrl
  have htest := run_test (l.take k).reverse
  have hend := ends_run (l.take k).reverse
  rw [List.reverse_reverse] at hend
  rw [hend]
  generalize runOf (l.take k).reverse = R at *
  refine Ex.whileS (ι := {r : Nat // r ≤ R}) (fun r => [("text", .val (.str (S l))), ("place", .val (.int (k : Nat))), ("run", .val (.int (r.1 : Nat)))]) (fun r => R - r.1) (fun r => decide (r.1 < R)) ⟨0, Nat.zero_le _⟩ ⟨rfl, rfl, rfl, trivial⟩ (fun _ => by simp; decide) ?_ ?_ ?_
  · rintro ⟨r, hr⟩
    have ht := htest r hr
    by_cases hrk : r < k
    · obtain ⟨c, hc⟩ : ∃ c, l[k - 1 - r]? = some c := ⟨_, List.getElem?_eq_getElem (by omega)⟩
      have hq : (l.take k).reverse[r]? = some c := (rev_at hk hrk).trans hc
      rw [hq] at ht
      refine (Tr.and (c := true) ((Tr.cmp (Ev.name rfl).b (Ev.name rfl).b .lt_int).cast (by simp; omega)) fun _ => Tr.and (c := decide (c = 92)) ((Tr.cmp (Ev.itemS (d := .str (S [c])) (.name rfl) (.binop (.binop (.name rfl) .int .sub) (.name rfl) .sub) (.str ?_ ?_ ?_)).b (chr_ev T (FE.kind rfl) .int (by decide) (by decide)).b .eq_str).cast ?_) fun _ => .and_nil).cast ?_
      · rw [at_ix hrk]; exact Int.natCast_nonneg _
      · rw [at_ix hrk]; exact Int.lt_of_lt_of_le (Int.ofNat_lt.mpr (Nat.lt_of_le_of_lt (Nat.sub_le_of_le_add (Nat.sub_le_of_le_add (by omega : k ≤ 3000 + r + 1))) (by decide : 3000 < 4000))) (by decide)
      · rw [at_ix hrk]; exact hc
      · rw [Bool.eq_iff_iff]; simp [S_inj]
      · rw [Bool.eq_iff_iff]; simp; rw [ht]; simp
    · refine (Tr.and (c := false) (c' := true) ((Tr.cmp (Ev.name rfl).b (Ev.name rfl).b .lt_int).cast (by simp; omega)) nofun).cast ?_
      have : ¬ r < R := by omega
      simp [this]
  · rintro ⟨r, hr⟩ hc
    have hc : r < R := of_decide_eq_true hc
    refine Ex.one (Ex1.assign (.binop (.name rfl) .int .add) (FE.loc rfl)) (Ex.nil ⟨⟨r + 1, hc⟩, by dsimp only; omega, rfl, rfl, ?_, trivial⟩)
    show some _ = some _
    simp
  · rintro ⟨r, hr⟩ hc
    have hc : ¬ r < R := of_decide_eq_false hc
    have : r = R := by omega
    subst this
    refine Ex.cons (Ex1.ret (Ev.cmp (Ev.binop (.name rfl) .int (.mod (by decide))).b Ev.int.b .eq_int).b ?_)
    congr 2
    rw [Int.fmod_eq_emod_of_nonneg _ (by decide)]
    rw [Bool.eq_iff_iff]; simp; omega
end
end L07
end Mine
end
section
open PySem PySem.W PyProof.Rows PySem.Calls
set_option maxRecDepth 100000
namespace Mine
namespace L07
open PySem.Challenge
section
variable {G : Gr} {n : Nat} {env : Env} {σ : St}
set_option maxHeartbeats 1000000 in
theorem sign_ok {k : Int} (T : Tp G) (h8 : k.fmod 10 ≠ 8) {a : Addr} (F : FnAt G (df 11) a) : ∃ c : Nat, c < 1114112 ∧ CallD G (n + 1) (.ref a) [.int k] (.str (S [c])) := by
  have hm : 0 ≤ k.fmod 10 ∧ k.fmod 10 < 10 := ⟨Int.fmod_nonneg_of_pos _ (by decide), Int.fmod_lt_of_pos _ (by decide)⟩
  have hq : 0 ≤ (k.fdiv 10).fmod 1114112 ∧ (k.fdiv 10).fmod 1114112 < 1114112 := ⟨Int.fmod_nonneg_of_pos _ (by decide), Int.fmod_lt_of_pos _ (by decide)⟩
  generalize hc : (k.fdiv 10).fmod 1114112 = code at hq
  have key : ∃ c : Nat, c < 1114112 ∧ ∀ env, FEnv env (df 11).scope → Ex G n env [("number", .val (.int k))] (df 11).body fun fl _ => fl = .ret (.str (S [c])) := by
    generalize hg : k.fmod 10 = kind at hm h8
    have start : ∀ c : Nat, (∀ env, FEnv env (df 11).scope → Ex G n env [("number", .val (.int k)), ("kind", .val (.int kind))] ((df 11).body.drop 1) fun fl _ => fl = .ret (.str (S [c]))) → ∀ env, FEnv env (df 11).scope → Ex G n env [("number", .val (.int k))] (df 11).body fun fl _ => fl = .ret (.str (S [c])) := fun c h env FE =>
      Ex.one (Ex1.assign ((Ev.binop (.name rfl) .int (.mod (by decide))).cast (by rw [hg])) (FE.loc rfl)) (h env FE)
    by_cases h9 : kind = 9
    · by_cases hz : 55296 ≤ code ∧ code < 57344
      · refine ⟨122, by decide, start _ fun env FE => ?_⟩
        refine Ex.cons (Ex1.ite ((Tr.cmp (Ev.name rfl).b Ev.int.b .eq_int).cast (c' := true) (by simp [h9])) (fun h => ?_) nofun)
        refine Ex.one (Ex1.assign ((Ev.binop (.binop (.name rfl) .int (.fdiv (by decide) (by decide))) .int (.mod (by decide))).cast (d' := .int code) (by rw [hc])) (FE.loc rfl)) ?_
        exact Ex.cons (Ex1.ret (Ev.ifexp ((Tr.cmp2 Ev.int.b (Ev.name rfl).b Ev.int.b .le_int .lt_int).cast (c' := true) (by simp [hz])) (fun _ => .str) nofun).b rfl)
      · refine ⟨code.toNat, by omega, start _ fun env FE => ?_⟩
        refine Ex.cons (Ex1.ite ((Tr.cmp (Ev.name rfl).b Ev.int.b .eq_int).cast (c' := true) (by simp [h9])) (fun h => ?_) nofun)
        refine Ex.one (Ex1.assign ((Ev.binop (.binop (.name rfl) .int (.fdiv (by decide) (by decide))) .int (.mod (by decide))).cast (d' := .int code) (by rw [hc])) (FE.loc rfl)) ?_
        exact Ex.cons (Ex1.ret (Ev.ifexp ((Tr.cmp2 Ev.int.b (Ev.name rfl).b Ev.int.b .le_int .lt_int).cast (c' := false) (by simp; omega)) nofun (fun _ => chr_ev T (FE.kind rfl) (.name rfl) hq.1 (by omega))).b rfl)
    · have hk : ([40, 41, 39, 34, 92, 97, 32, 39] : List Nat)[kind.toNat]? = some (([40, 41, 39, 34, 92, 97, 32, 39] : List Nat)[kind.toNat]'(by simp; omega)) := List.getElem?_eq_getElem _
      generalize ([40, 41, 39, 34, 92, 97, 32, 39] : List Nat)[kind.toNat]'(by simp; omega) = c at hk
      refine ⟨c, ?_, start _ fun env FE => ?_⟩
      · have := List.mem_of_getElem? hk
        simp at this; omega
      refine Ex.cons (Ex1.ite ((Tr.cmp (Ev.name rfl).b Ev.int.b .eq_int).cast (c' := false) (by simp [h9])) nofun (fun h => Ex.nil ?_))
      refine Ex.cons (Ex1.ret (Ev.item (ds := ([40, 41, 39, 34, 92, 97, 32, 39] : List Nat).map fun c => .str (S [c])) (Ev.list (.cons .str (.cons .str (.cons (chr_ev T (FE.kind rfl) .int (by decide) (by decide)) (.cons .str (.cons (chr_ev T (FE.kind rfl) .int (by decide) (by decide)) (.cons .str (.cons .str (.cons (chr_ev T (FE.kind rfl) .int (by decide) (by decide)) .nil)))))))) (by decide))
        (.name rfl) (.list (by omega) (by omega) (by rw [List.getElem?_map, hk]; rfl))).b rfl)
  obtain ⟨c, h1, h2⟩ := key
  exact ⟨c, h1, CallD.fn1 (x := "number") F h2⟩
def keepT (d : D) : Bool := match d with
  | .tuple [_, .str x] => decide (x = S [39])
  | _ => false
def fstT (d : D) : D := match d with
  | .tuple (v :: _) => v
  | _ => .none
theorem enum_ticks : ∀ (l : List Nat) (a : Nat), ((((l.map fun c => D.str (S [c])).zipIdx a).map fun p => D.tuple [.int (p.2 : Nat), p.1]).filter keepT).map fstT = nums (ticksF a l)
  | [], a => rfl
  | c :: l, a => by
    have ih := enum_ticks l (a + 1)
    rw [List.map_cons, List.zipIdx_cons, List.map_cons, ticksF]
    by_cases h : c = 39
    · rw [if_pos h, List.filter_cons_of_pos (by simp [keepT, S_inj, h]), List.map_cons, ih]; rfl
    · rw [if_neg h, List.filter_cons_of_neg (by simp [keepT, S_inj, h]), ih]
theorem AssC.pair {cenv : Env} {x y : Str} {p q tp : Pos} {k : Nat} {a b : D} (hx : cenv.kindOf x = some .local) (hy : cenv.kindOf y = some .local) : AssC G n cenv (.Tuple [.Name x p, .Name y q] k tp) (.tuple [a, b]) (pairS x y (.tuple [a, b])) := by
  have a2 : AssCL G n cenv [.Name y q] [b] (fun σ => id (setS y (.val b) σ)) := AssCL.cons (f := setS y (.val b)) (g := id) (.name hy) .nil
  have a1 : AssCL G n cenv [.Name x p, .Name y q] [a, b] (fun σ => (fun σ => id (setS y (.val b) σ)) (setS x (.val a) σ)) := AssCL.cons (f := setS x (.val a)) (.name hx) a2
  exact AssC.tuple a1 rfl
theorem enum_mem {l : List Nat} {d : D} (h : d ∈ enumL (signs (S l))) : ∃ i c, l[i]? = some c ∧ d = .tuple [.int (i : Nat), .str (S [c])] := by
  obtain ⟨i, hi⟩ := List.mem_iff_getElem?.mp h
  obtain ⟨e, he, rfl⟩ := enumL_get.mp hi
  rw [signs_S, List.getElem?_map] at he
  obtain ⟨c, hc, rfl⟩ := Option.map_eq_some_iff.mp he
  exact ⟨i, c, hc, rfl⟩
theorem ticksF_length : ∀ (l : List Nat) (a : Nat), (ticksF a l).length ≤ l.length
  | [], a => Nat.le_refl _
  | c :: l, a => by
    rw [ticksF]
    have := ticksF_length l (a + 1)
    split <;> simp <;> omega
set_option maxHeartbeats 1000000 in
theorem parted_ok {l : List Nat} (T : Tp G) (hx : l.length ≤ 1000) {a : Addr} (F : FnAt G (df 10) a) : CallD G (n + 1) (.ref a) [.str (S l)] (dec l) := by
  refine CallD.fn1 (x := "text") F (fun env FE => ?_)
  have hsz : (enumL (signs (S l))).length = l.length := by rw [enumL_length, signs_S, List.length_map]
  refine Ex.step (Ex1.assignComp (CompOk.mk' (σc := []) (ds := enumL (signs (S l))) (f := pairS "place" "sign") (keep := keepT) (res := fstT) (out := nums (ticksF 0 l)) FE trivial
      (EvI.enumS (FE.kind rfl) T.enum (.name rfl)) (fun d _ => trivial) (fun cenv CE d hd => ?_) ?_ ?_) (FE.loc rfl) (FE.swaps fun _ => rfl)) ?_
  · obtain ⟨i, c, hc, rfl⟩ := enum_mem hd
    exact ⟨AssC.pair (CE.loc rfl) (CE.loc rfl), .one ((Tr.cmp (Ev.name rfl).b (chr_ev T (CE.glob rfl) .int (by decide) (by decide)).b .eq_str).cast rfl), fun _ => .name rfl⟩
  · rw [hsz]; unfold sizeLine; omega
  · have := enum_ticks l 0
    rw [signs_S]
    exact this
  rintro _ ⟨at', rfl⟩
  refine Ex.freeze (x := "ticks") rfl ?_
  have htl := ticksF_length l 0
  have lenp : ∀ {σ : St} {p1 p2 p3 : Pos}, σ.lookup ("ticks" : Str) = some (.val (.list (nums (ticksF 0 l)))) → Ev G n env σ (.Call (.Name "len" p1) [.Name "ticks" p2] [] p3) (.int (((ticksF 0 l).length : Nat) : Int)) := fun hl =>
    (Ev.call (.builtin (FE.kind rfl) T.len rfl) (.builtin _) (.cons (.name hl) .nil) (.len_list (by simp [nums]; omega))).cast (by simp [nums])
  rcases cut_ticks l with ⟨h1, h2⟩ | ⟨t0, t1, r, h1, h2, h3, h4, h5⟩
  · refine Ex.cons (Ex1.ite (c := true) ((Tr.cmp (lenp rfl).b Ev.int.b .lt_int).cast (by simp; omega)) (fun _ => ?_) nofun)
    refine Ex.cons (Ex1.ret (Ev.tuple (.cons .none (.cons .none (.cons (.name rfl) .nil))) (by unfold sizeLine; simp)).b ?_)
    rw [dec, if_pos h2]
  · refine Ex.cons (Ex1.ite (c := false) ((Tr.cmp (lenp rfl).b Ev.int.b .lt_int).cast (by rw [h1]; simp; omega)) nofun (fun _ => Ex.nil ?_))
    have i0 : ∀ {σ : St} {p1 p2 p3 : Pos} {kk : Nat}, σ.lookup ("ticks" : Str) = some (.val (.list (nums (ticksF 0 l)))) → Ev G n env σ (.Subscript (.Name "ticks" p1) (.Constant (.int 0) kk p2) p3) (.int (t0 : Nat)) := fun hl =>
      Ev.item (.name hl) .int (.list (by decide) (by decide) (by rw [h1]; rfl))
    have i1 : ∀ {σ : St} {p1 p2 p3 : Pos} {kk : Nat}, σ.lookup ("ticks" : Str) = some (.val (.list (nums (ticksF 0 l)))) → Ev G n env σ (.Subscript (.Name "ticks" p1) (.Constant (.int 1) kk p2) p3) (.int (t1 : Nat)) := fun hl =>
      Ev.item (.name hl) .int (.list (by decide) (by decide) (by rw [h1]; rfl))
    have hz : (S l).length ≤ sizeLine := sz (by rw [S_length]; omega)
    refine Ex.cons (Ex1.ret (Ev.list (ds := [.str (S (l.take t0)), .str (S ((l.drop (t0 + 1)).take (t1 - (t0 + 1)))), .str (S (l.drop (t1 + 1)))])
      (.cons ((Ev.itemS (.name rfl) (.slice .none (.some (i0 rfl)) .none) (.sliceS rfl rfl rfl nofun hz)).cast ?_)
        (.cons ((Ev.itemS (.name rfl) (.slice (.some (.binop (i0 rfl) .int .add)) (.some (i1 rfl)) .none) (.sliceS rfl rfl rfl nofun hz)).cast ?_)
          (.cons ((Ev.itemS (.name rfl) (.slice (.some (.binop (i1 rfl) .int .add)) .none .none) (.sliceS rfl rfl rfl nofun hz)).cast ?_) .nil))) (sz (by simp))).b ?_)
    · show D.str (sliceStr (S l) none (some (t0 : Int)) none) = _
      unfold sliceStr; rw [pickD_upto]
    · show D.str (sliceStr (S l) (some ((t0 : Int) + 1)) (some (t1 : Int)) none) = _
      unfold sliceStr; rw [show ((t0 : Int) + 1) = ((t0 + 1 : Nat) : Int) by simp, pickD_run]
    · show D.str (sliceStr (S l) (some ((t1 : Int) + 1)) none none) = _
      unfold sliceStr; rw [show ((t1 : Int) + 1) = ((t1 + 1 : Nat) : Int) by simp, pickD_from]
    · rw [dec, if_neg (by rw [h5]; simp), h5]; rfl
end
end L07
end Mine
end
section
open PySem PySem.W PyProof.Rows PySem.Calls
set_option maxRecDepth 100000
namespace Mine
namespace L07
open PySem.Challenge
section
variable {G : Gr} {n : Nat} {env : Env} {σ : St}
theorem in_sig (c : Nat) : Txt.contains (S [40, 41, 34]) (S [c]) = isSig c := by
  rw [contains_one]
  rw [Bool.eq_iff_iff]; simp [isSig, or_assoc]
def sgl (l : List Nat) : List D := l.map fun c => .str (S [c])
theorem count_sgl (l : List Nat) : ((l.map fun c => S [c]).countP fun t => decide (t = S [34])) = l.count 34 := by
  rw [List.countP_map, List.count_eq_countP]
  refine List.countP_congr fun c _ => ?_
  simp [S_inj]
set_option maxHeartbeats 2000000 in
theorem sound_ok {l : List Nat} (T : Tp G) (hx : l.length ≤ 3000) {a : Addr} (F : FnAt G (df 9) a) : CallD G (n + 2) (.ref a) [.str (S l)] (.bool (check l)) := by
  obtain ⟨ab, FB⟩ := T.behind
  refine CallD.fn1 (x := "text") F (fun env FE => ?_)
  refine Ex.step (Ex1.assignF (EvF.list .nil (by decide)) (FE.loc rfl)) ?_
  rintro _ ⟨a₀, rfl⟩
  refine Ex.forS (f := pairS "place" "sign") (ds := enumL (signs (S l))) (fun i a => [("text", .val (.str (S l))), ("bare", .own a (sgl (bareP false (l.take i))))]) a₀ ⟨rfl, rfl, trivial⟩ (fun _ _ => by simp; decide)
    (EvI.enumS (FE.kind rfl) T.enum (.name rfl)) (fun d hd => by obtain ⟨i, c, _, rfl⟩ := enum_mem hd; exact AssD.pair (FE.loc rfl) (FE.loc rfl)) ?_ ?_
  · intro i d p hd
    obtain ⟨e, he, rfl⟩ := enumL_get.mp hd
    rw [signs_S, List.getElem?_map] at he
    obtain ⟨c, hc, rfl⟩ := Option.map_eq_some_iff.mp he
    have hlt : i < l.length := (List.getElem?_eq_some_iff.mp hc).1
    have htk : l.take (i + 1) = l.take i ++ [c] := by rw [List.take_add_one, hc]; rfl
    have hbl : (bareP false (l.take i)).length ≤ i := Nat.le_trans (bareP_length _ _) (by simp; omega)
    rw [htk, bareP_snoc]
    refine Ex.cons (Ex1.ite (c := isSig c && !ends false (l.take i)) ((Tr.and ((Tr.cmp (Ev.name rfl).b Ev.str.b .in_str).cast (in_sig c)) fun _ => Tr.and (Tr.not (Tr.plain (Ev.call (fn_ev FB (FE.kind rfl)) FB.callee (.cons (.name rfl) (.cons (.name rfl) .nil)) (behind_ok T hx hlt FB)).b .bool)) fun _ => .and_nil).cast (by simp)) (fun hcond => ?_) (fun hcond => ?_))
    · refine Ex.one (Ex1.append rfl (.name rfl) ?_) (Ex.nil (Ex.nil ⟨p, rfl, ?_, trivial⟩))
      · simp [sgl]; unfold sizeLine; omega
      · show some _ = some _
        rw [if_pos hcond]; simp [sgl]
    · refine Ex.nil (Ex.nil ⟨p, rfl, ?_, trivial⟩)
      show some _ = some _
      rw [if_neg (by rw [hcond]; decide)]; simp [sgl]
  · intro p
    rw [enumL_length, signs_S, List.length_map, List.take_length]
    rw [check_rest]
    have hrb := restOf_brk l
    unfold restOf at *
    have hbl := bareP_length l false
    generalize bareP false l = B at *
    refine Ex.one (Ex1.assign ((Ev.countOwn (ts := B.map fun c => S [c]) (y := S [34]) (by show some _ = some _; simp [sgl]; rfl) .str).cast (d' := .int (B.count 34 : Nat)) (by rw [count_sgl])) (FE.loc rfl)) ?_
    refine Ex.one (Ex1.assign .int (FE.loc rfl)) ?_
    refine Ex.one (Ex1.assign .str (FE.loc rfl)) ?_
    refine Ex.freeze (x := "bare") rfl ?_
    refine Ex.forS (ι := Unit) (f := fun d => setS "sign" (.val d)) (ds := sgl B) (fun i _ => [("bare", .val (.list (sgl B))), ("marks", .val (.int (B.count 34 : Nat))), ("ahead", .val (.int ((B.take i).count 34 : Nat))), ("rest", .val (.str (S (restR (B.count 34) 0 (B.take i)))))]) () ⟨rfl, rfl, rfl, rfl, trivial⟩ (fun _ _ => by simp; decide)
      (.of_ev (.name rfl) .list) (fun d _ => .name (FE.loc rfl)) ?_ ?_
    · intro i d _ hd
      unfold sgl at hd
      rw [List.getElem?_map] at hd
      obtain ⟨c, hc, rfl⟩ := Option.map_eq_some_iff.mp hd
      have hlt : i < B.length := (List.getElem?_eq_some_iff.mp hc).1
      have htk : B.take (i + 1) = B.take i ++ [c] := by rw [List.take_add_one, hc]; rfl
      have hrl : (restR (B.count 34) 0 (B.take i)).length ≤ 3000 := Nat.le_trans (restR_length _ _) (by simp; omega)
      rw [htk, restR_snoc, List.count_append]
      generalize hcn : (B.take i).count 34 = m
      generalize restR (B.count 34) 0 (B.take i) = R at *
      by_cases h34 : c = 34
      · subst h34
        refine Ex.cons (Ex1.ite (c := true) ((Tr.cmp (Ev.name rfl).b Ev.str.b .eq_str).cast (by rfl)) (fun _ => ?_) nofun)
        refine Ex.one (Ex1.assign (.binop (.name rfl) .int .add) (FE.loc rfl)) (Ex.nil (Ex.nil ⟨(), rfl, rfl, ?_, ?_, trivial⟩))
        · show some _ = some _
          simp
        · show some _ = some _
          simp
      · have hcnt : List.count 34 [c] = 0 := List.count_eq_zero.mpr (by simp; omega)
        refine Ex.cons (Ex1.ite (c := false) ((Tr.cmp (Ev.name rfl).b Ev.str.b .eq_str).cast (by rw [show (Str.ofString "\"") = S [34] from rfl]; simp [S_inj, h34])) nofun (fun _ => ?_))
        have test : decide (m % 2 = 0 ∨ m = B.count 34) = ((((m : Int).fmod 2) == 0) || (((m : Int) == ((B.count 34 : Nat) : Int)) || false)) := by
          rw [Int.fmod_eq_emod_of_nonneg _ (by decide)]
          rw [Bool.eq_iff_iff]; simp; omega
        rw [if_neg h34, hcnt, Nat.zero_add, Nat.add_zero]
        refine Ex.cons (Ex1.ite (c := decide (m % 2 = 0 ∨ m = B.count 34)) ?_ (fun hcond => ?_) (fun hcond => ?_))
        · rw [test]
          exact Tr.or (Tr.cmp (Ev.binop (.name rfl) .int (.mod (by decide))).b Ev.int.b .eq_int) fun _ => Tr.or (Tr.cmp (Ev.name rfl).b (Ev.name rfl).b .eq_int) fun _ => .or_nil
        · refine Ex.one (Ex1.assign (.binop (.name rfl) (.name rfl) (.add_str (sz (by rw [S_length, S_length]; simp; omega)))) (FE.loc rfl)) (Ex.nil (Ex.nil (Ex.nil ⟨(), rfl, rfl, rfl, ?_, trivial⟩)))
          show some _ = some _
          rw [if_pos (of_decide_eq_true hcond), S_app]
        · refine Ex.nil (Ex.nil (Ex.nil ⟨(), rfl, rfl, rfl, ?_, trivial⟩))
          show some _ = some _
          rw [if_neg (of_decide_eq_false hcond)]; simp
    · intro _
      have hlen : (sgl B).length = B.length := by simp [sgl]
      rw [hlen, List.take_length]
      have hrl : (restR (B.count 34) 0 B).length ≤ 3000 := Nat.le_trans (restR_length _ _) (by omega)
      generalize restR (B.count 34) 0 B = R at *
      refine Ex.whileReplace (x := "rest") (y := S [40, 41]) (z := S []) (fun w => ∃ q, w = S q ∧ (∀ c ∈ q, brk c) ∧ q.length ≤ 3000 ∧ bal 0 q = bal 0 R) (fun w => [("rest", .val (.str w.1))]) ⟨S R, R, rfl, hrb, hrl, rfl⟩ ⟨rfl, trivial⟩ (fun _ => by simp) (fun _ => rfl) (fun _ _ => ⟨rfl, trivial⟩) (FE.loc rfl) (by decide) rfl ?_ ?_ ?_
      · rintro w ⟨q, rfl, _, h, _⟩
        rw [S_length]; omega
      · rintro w ⟨q, rfl, h1, h2, h3⟩ hc
        obtain ⟨q', e, h4, h5, h6⟩ := strike_step q
        have := h6 hc
        rw [e, S_length, S_length]
        exact ⟨⟨q', rfl, fun c hc => h1 c (h5 c hc), by omega, by rw [h4, h3]⟩, this⟩
      · rintro ⟨w, q, rfl, h1, h2, h3⟩ hc
        refine Ex.cons (Ex1.ret (Ev.cmp (Ev.name rfl).b Ev.str.b .eq_str).b ?_)
        congr 2
        have e : bal 0 R = decide (q = []) := h3.symm.trans (bal_done h1 (no_pair hc))
        refine Eq.trans ?_ e.symm
        rw [Bool.eq_iff_iff, decide_eq_true_iff, decide_eq_true_iff]
        exact S_inj (m := [])
end
end L07
end Mine
end
section
open PySem PySem.W PyProof.Rows PySem.Calls
set_option maxRecDepth 100000
namespace Mine
namespace L07
open PySem.Challenge
section
variable {G : Gr} {n : Nat} {env : Env} {σ : St}
def kindsD : List D := [.str "NoneType", .str "int", .str "list", .str "tuple", .str "dict"]
def othersD (k : Nat) (al at' ad : Addr) : List D := [.none, .int (k : Nat), .raw (.ref al), .raw (.ref at'), .raw (.ref ad)]
theorem attr_zz (K : String) (h : (attrWords K "split").length ≤ 200) : ("AttributeError: " : Str).length + (attrWords K "split").length ≤ sizeLine := sz (by
  have : ("AttributeError: " : Str).length = 16 := rfl
  omega)
/-- one value that has no split -/
theorem fault_turn {l : List Env} {d : D} {K : String} {σ : St} {bd : List Stmt} {Q : Fl → St → Prop} {p1 p2 p3 p4 p5 p6 p7 p8 p9 p10 : Pos} {k1 k2 : Nat} (T : Tp G) (FE : FEnv env (df 13).scope)
    (h1 : σ.lookup ("value" : Str) = some (.val d)) (h2 : σ.lookup ("kind" : Str) = some (.val (.str K)))
    (hm : ∀ H, MethX G n H d "split" "AttributeError" (attrWords K "split")) (hz : (attrWords K "split").length ≤ 200) (hK : (K : Str).length ≤ 100)
    (he : (("AttributeError: '" : Str) ++ (K : Str) ++ ("' object has no attribute 'split'" : Str)) = ("AttributeError: " : Str) ++ attrWords K "split")
    (h : Q .next σ) :
    ExP G (n + 2) env (HS G.base env l) σ [.If (.Compare (.Call (.Name (df 12).name p1) [.Name "value" p2] [] p3) [.NotEq] [.BinOp (.BinOp (.Constant (.str "AttributeError: '") k1 p4) .Add (.Name "kind" p5) p6) .Add (.Constant (.str "' object has no attribute 'split'") k2 p7) p8] p9) bd [] p10] Q := by
  obtain ⟨af, FF⟩ := T.fault
  have R : Rd G.base env (fpS l) (HS G.base env l) := rdS
  refine ExP.cons R (ExP1.ite (c := false) R (TrP.cast (TrP.cmp R (EvP.call R tellsS (fn_ev FF (FE.kind rfl)) FF.callee (.cons R (.of (.name h1)) .nil) (fault_attr T hm (attr_zz K hz) FF)) (.of (Ev.binop (Ev.binop .str (.name h2) (.add_str ?_)) .str (.add_str ?_))) .ne_str) ?_) nofun (fun _ => ExP.nil (ExP.nil h)))
  · exact sz (by have : ("AttributeError: '" : Str).length = 17 := rfl
                 omega)
  · refine sz ?_
    rw [Str.length_append]
    have e1 : ("AttributeError: '" : Str).length = 17 := rfl
    have e2 : ("' object has no attribute 'split'" : Str).length = 33 := rfl
    omega
  · rw [he]; simp
theorem bytes_turn {l : List Env} {b : Array UInt8} {σ : St} {bd : List Stmt} {Q : Fl → St → Prop} {p1 p2 p3 p4 p9 p10 : Pos} {k1 : Nat} (T : Tp G) (FE : FEnv env (df 13).scope)
    (h1 : σ.lookup ("value" : Str) = some (.val (.bytes b))) (h : Q .next σ) :
    ExP G (n + 2) env (HS G.base env l) σ [.If (.Compare (.Call (.Name (df 12).name p1) [.Name "value" p2] [] p3) [.NotEq] [.Constant (.str "TypeError: a bytes-like object is required, not 'str'") k1 p4] p9) bd [] p10] Q := by
  obtain ⟨af, FF⟩ := T.fault
  have R : Rd G.base env (fpS l) (HS G.base env l) := rdS
  refine ExP.cons R (ExP1.ite (c := false) R (TrP.cast (TrP.cmp R (EvP.call R tellsS (fn_ev FF (FE.kind rfl)) FF.callee (.cons R (.of (.name h1)) .nil) (fault_bytes T FF)) (.of .str) .ne_str) ?_) nofun (fun _ => ExP.nil (ExP.nil h)))
  decide
def tailS (ns : List Int) (xs : List (List Nat)) (al at' ad : Addr) : St := [("script", .val (.list (ns.map .int))), ("texts", .val (.list (rowsD xs))), ("kept", .val (.list (rowsD xs))), ("others", .val (.list (othersD ns.length al at' ad)))]
def tailS2 (ns : List Int) (xs : List (List Nat)) (al at' ad : Addr) : St := [("script", .val (.list (ns.map .int))), ("texts", .val (.list (rowsD xs))), ("kept", .val (.list (rowsD xs))), ("others", .val (.list (othersD ns.length al at' ad))), ("kinds", .val (.list kindsD))]
theorem tailS2_nd (ns : List Int) (xs : List (List Nat)) (al at' ad : Addr) : ((tailS2 ns xs al at' ad).map (·.1)).Nodup := by simp [tailS2]; decide
set_option maxHeartbeats 4000000 in
theorem tail_ok {ns : List Int} {xs : List (List Nat)} {l : List Env} {al at' ad : Addr} (T : Tp G) (hn : ns.length ≤ 63) (FE : FEnv env (df 13).scope) (hgood : ∀ t ∈ xs, Good t)
    (h1 : Bare G.base al "list") (h2 : Bare G.base at' "tuple") (h3 : Bare G.base ad "dict") (body : List Stmt) (hbody : body = (df 13).body.drop 8) :
    ExP G (n + 2) env (HS G.base env l) (tailS ns xs al at' ad) body fun fl _ => fl = .ret (.bool true) := by
  subst hbody
  have R : Rd G.base env (fpS l) (HS G.base env l) := rdS
  refine ExP.one R (.of (Ex1.assign (d := .list kindsD) (Ev.list (.cons .str (.cons .str (.cons .str (.cons .str (.cons .str .nil))))) (by decide)) (FE.loc rfl))) ?_
  refine ExP.forX R (tailS2 ns xs al at' ad) ⟨rfl, rfl, rfl, rfl, rfl, trivial⟩ (tailS2_nd ..) (f := pairS "value" "kind") (ds := pairL (othersD ns.length al at' ad) kindsD) (EvIX.zip (FE.kind rfl) T.zip (.name rfl) (.name rfl)) ?_ ?_ ?_
  · intro d hd
    simp only [pairL, othersD, kindsD, List.zipWith_cons_cons, List.zipWith_nil_right, List.mem_cons, List.not_mem_nil, or_false] at hd
    rcases hd with rfl | rfl | rfl | rfl | rfl <;> exact AssD.pair (FE.loc rfl) (FE.loc rfl)
  · intro i d hd
    match i, hd with
    | 0, hd => cases hd; exact fault_turn (K := "NoneType") T FE rfl rfl (fun H => .none lk_none_split split_name (sz (by decide))) (by decide) (by decide) (by decide) ⟨rfl, rfl, rfl, rfl, rfl, trivial⟩
    | 1, hd => cases hd; exact fault_turn (K := "int") T FE rfl rfl (fun H => .int lk_int_split split_name (sz (by decide))) (by decide) (by decide) (by decide) ⟨rfl, rfl, rfl, rfl, rfl, trivial⟩
    | 2, hd => cases hd; exact fault_turn (K := "list") T FE rfl rfl (fun H => .bare (missList lk_list_split) h1 split_name (sz (by decide))) (by decide) (by decide) (by decide) ⟨rfl, rfl, rfl, rfl, rfl, trivial⟩
    | 3, hd => cases hd; exact fault_turn (K := "tuple") T FE rfl rfl (fun H => .bare (missTuple lk_tuple_split) h2 split_name (sz (by decide))) (by decide) (by decide) (by decide) ⟨rfl, rfl, rfl, rfl, rfl, trivial⟩
    | 4, hd => cases hd; exact fault_turn (K := "dict") T FE rfl rfl (fun H => .bare (missDict lk_dict_split) h3 split_name (sz (by decide))) (by decide) (by decide) (by decide) ⟨rfl, rfl, rfl, rfl, rfl, trivial⟩
    | i + 5, hd => cases hd
  · refine ExP.forS R (tailS2 ns xs al at' ad) ⟨rfl, rfl, rfl, rfl, rfl, trivial⟩ (tailS2_nd ..) (f := fun d => setS "value" (.val d)) (ds := [.bytes (byteArr (ns.map (·.fmod 256))), .bytes [97, 39, 98, 39, 99].toArray])
      (.of_ev (Ev.list (.cons (Ev.call (.builtin (FE.kind rfl) T.bytes rfl) (.type _) (.cons (EvF.comp (CompOk.mk' (σc := []) (ds := ns.map .int) (f := fun d => setS "number" (.val d)) (keep := fun _ => true)
        (res := fun d => match d with | .int i => .int (i.fmod 256) | _ => .none) (out := (ns.map (·.fmod 256)).map .int) FE trivial (.of_ev (.name rfl) .list) (fun d _ => trivial) (fun cenv CE d hd => ?_) ?_ ?_)).ev .nil) (.bytes ?_ ?_)) (.cons .bytes .nil)) (sz (by simp))) .list) (fun d _ => .name (FE.loc rfl)) ?_ ?_
    · obtain ⟨i, hi, rfl⟩ := List.mem_map.mp hd
      exact ⟨.name (CE.loc rfl), .nil, fun _ => .binop (.name rfl) .int (.mod (by decide))⟩
    · rw [List.length_map]; unfold sizeLine; omega
    · rw [List.filter_eq_self.mpr (by simp), List.map_map, List.map_map]; rfl
    · intro i hi
      obtain ⟨j, hj, rfl⟩ := List.mem_map.mp hi
      exact ⟨Int.fmod_nonneg_of_pos _ (by decide), Int.fmod_lt_of_pos _ (by decide)⟩
    · rw [List.length_map]; exact sz (by omega)
    · intro i d hd
      match i, hd with
      | 0, hd => cases hd; exact bytes_turn T FE rfl ⟨rfl, rfl, rfl, rfl, rfl, trivial⟩
      | 1, hd => cases hd; exact bytes_turn T FE rfl ⟨rfl, rfl, rfl, rfl, rfl, trivial⟩
      | i + 2, hd => cases hd
    · have hd0 : (D.list (rowsD xs)).data 1 = true := data_list fun d hd => by
        obtain ⟨t, ht, rfl⟩ := List.mem_map.mp hd
        exact (hgood t ht).data
      refine ExP.cons R (ExP1.of (Ex1.ret (Ev.cmp (Ev.name rfl).b (Ev.name rfl).b (.eq hd0 hd0 (by decide))).b ?_))
      rw [eqb_refl hd0]
end
end L07
end Mine
end
section
open PySem PySem.W PyProof.Rows PySem.Calls
set_option maxRecDepth 100000
namespace Mine
namespace L07
open PySem.Challenge
section
variable {G : Gr} {n : Nat} {env : Env} {σ : St}
theorem cutN_len2 (l : List Nat) : (cutN 39 2 l).length ≤ 3 := by
  rcases cut_ticks l with ⟨_, h⟩ | ⟨t0, t1, r, _, _, _, _, h⟩
  · omega
  · rw [h]; simp
theorem good_take {l : List Nat} (h : Good l) (k : Nat) : Good (l.take k) := fun c hc => h c (List.mem_of_mem_take hc)
theorem good_drop {l : List Nat} (h : Good l) (k : Nat) : Good (l.drop k) := fun c hc => h c (List.mem_of_mem_drop hc)
theorem dec_data {l : List Nat} (h : Good l) : (dec l).data 1 = true := by
  unfold dec
  split
  · exact data_tuple fun d hd => by
      simp at hd
      rcases hd with rfl | rfl
      · rfl
      · exact h.data
  · refine data_list fun d hd => ?_
    obtain ⟨p, hp, rfl⟩ := List.mem_map.mp hd
    rcases cut_ticks l with ⟨_, h2⟩ | ⟨t0, t1, r, _, _, _, _, h2⟩
    · contradiction
    · rw [h2] at hp
      simp at hp
      rcases hp with rfl | rfl | rfl
      · exact (good_take h _).data
      · exact (good_take (good_drop h _) _).data
      · exact (good_drop h _).data
theorem bad_good : Good bad := fun c hc => by simp [bad] at hc; omega
theorem pre_good {l : List Nat} (h : Good l) : Good (pre l) := by unfold pre; split; exact h; exact bad_good
theorem decs_data {xs : List (List Nat)} (h : ∀ t ∈ xs, Good t) : (D.list (xs.map dec)).data 2 = true := data_list fun d hd => by
  obtain ⟨p, hp, rfl⟩ := List.mem_map.mp hd
  exact dec_data (h p hp)
def decD (d : D) : D := match d with
  | .str x => dec x.cps.toList
  | _ => .none
theorem rowsD_length (xs : List (List Nat)) : (rowsD xs).length = xs.length := by simp [rowsD]
theorem dec_bad : dec bad = .list [.str (S [40]), .str (S []), .str (S [44, 32, 39, 39, 41])] := rfl
def midW (ns : List Int) (xs : List (List Nat)) (at' aw : Addr) (i : Nat) : St := [("script", .val (.list (ns.map .int))), ("texts", .own at' (rowsD xs)), ("kept", .val (.list (rowsD xs))), ("wanted", .own aw ((xs.take i).map fun t => dec (pre t)))]
theorem midW_nd (ns : List Int) (xs : List (List Nat)) (at' aw : Addr) (i : Nat) : ((midW ns xs at' aw i).map (·.1)).Nodup := by simp [midW]; decide
set_option maxHeartbeats 4000000 in
theorem want_turn {ns : List Int} {xs : List (List Nat)} {t : List Nat} {at' aw : Addr} {i : Nat} (T : Tp G) (FE : FEnv env (df 13).scope) (ht : xs[i]? = some t) (h1 : t.length ≤ 1000) (hx : xs.length ≤ 1000) {body : List Stmt} (hbody : body = (match ((df 13).body.drop 5) with | .For _ _ b _ _ :: _ => b | _ => [])) :
    Ex G (n + 4) env [("script", .val (.list (ns.map .int))), ("texts", .own at' (rowsD xs)), ("kept", .val (.list (rowsD xs))), ("wanted", .own aw ((xs.take i).map fun t => dec (pre t))), ("text", .val (.str (S t)))] body fun fl σ₂ => fl = .next ∧ ∃ aw, Sub (midW ns xs at' aw (i + 1)) σ₂ := by
  subst hbody
  obtain ⟨as, FS⟩ := T.soundF
  obtain ⟨ap, FP⟩ := T.parted
  have htk : xs.take (i + 1) = xs.take i ++ [t] := by rw [List.take_add_one, ht]; rfl
  refine Ex.one (Ex1.append (d := dec (pre t)) rfl (Ev.ifexp (c := check t) (Tr.plain (Ev.call (fn_ev FS (FE.kind rfl)) FS.callee (.cons (.name rfl) .nil) (sound_ok (n := n + 2) T (by omega) FS)).b .bool) (fun h => ?_) (fun h => ?_)) ?_) (Ex.nil ⟨rfl, aw, rfl, rfl, rfl, ?_, trivial⟩)
  · rw [pre, if_pos h]
    exact Ev.call (fn_ev FP (FE.kind rfl)) FP.callee (.cons (.name rfl) .nil) (parted_ok T h1 FP)
  · rw [pre, if_neg (by rw [h]; decide), dec_bad]
    exact Ev.list (.cons .str (.cons .str (.cons .str .nil))) (by decide)
  · simp; unfold sizeLine; omega
  · show some _ = some _
    rw [htk, List.map_append]; rfl
set_option maxHeartbeats 4000000 in
theorem others_ok {ns : List Int} {xs : List (List Nat)} {l : List Env} {at' aw : Addr} (T : Tp G) (hn : ns.length ≤ 63) (FE : FEnv env (df 13).scope) (hgood : ∀ t ∈ xs, Good t) (hxl : xs.length ≤ 1000) (body : List Stmt) (hbody : body = (df 13).body.drop 7) :
    ExP G (n + 2) env (HS G.base env l) (midW ns xs at' aw xs.length) body fun fl _ => fl = .ret (.bool true) := by
  subst hbody
  refine ExP.assignGrow (x := "others") (y := "texts") rfl (FE.loc rfl) (fun ok A s hS r k i => ?_)
  refine others_ev (σ := midW ns xs at' aw xs.length) (ins := ns.map .int) (rws := rowsD xs) (al := at') (xs := "script") (xt := "texts") rfl rfl (FE.kind rfl) T.len (FE.kind rfl) T.tuple (by rw [List.length_map]; omega) (by rw [rowsD_length]; exact sz (by omega)) (r := r) (k := k) (i := i) (h := ?_)
  intro s₁ v vs tk at2 ad ll st hv hll how hal htu hdi hf1 hf2
  subst hv
  have i' := i.freeze (x := "texts") (a := at') (ds := rowsD xs) rfl
  have hno : at' ∉ owned (setS "texts" (.val (.list (rowsD xs))) (midW ns xs at' aw xs.length)) := notMem_setS_val i.once rfl
  obtain ⟨_, _, vs', ow', _⟩ := i.owns "texts" at' (rowsD xs) rfl
  have hn1 : at' ∉ hideL env (setS "texts" (.val (.list (rowsD xs))) (midW ns xs at' aw xs.length)) l := hideL_own hS i' ow' hno
  have hn2 : at2 ∉ hideL env (setS "texts" (.val (.list (rowsD xs))) (midW ns xs at' aw xs.length)) l := fun m => by
    have := hideL_some hS i' m; rw [hf1] at this; cases this
  have hn3 : ad ∉ hideL env (setS "texts" (.val (.list (rowsD xs))) (midW ns xs at' aw xs.length)) l := fun m => by
    have := hideL_some hS i' m; rw [hf2] at this; cases this
  refine ⟨st, .list (othersD ns.length at' at2 ad), .list (i'.freshO _ hll) how.list ?_, fun b kb kk hb => ?_⟩
  · have e : (List.map D.int ns).length = ns.length := List.length_map ..
    rw [e]
    exact .cons .none (.cons (.int _ _) (.cons (.raw _) (.cons (.raw _) (.cons (.raw _) .nil))))
  · refine ExP.only (σ₀ := tailS ns xs at' at2 ad) ⟨rfl, rfl, rfl, rfl, trivial⟩ ?_ (by simp [tailS]; decide)
    exact tail_ok (T.grow) hn FE hgood (hal.bare.keeps fun o e => hb _ _ e hn1) (htu.keeps fun o e => hb _ _ e hn2) (hdi.keeps fun o e => hb _ _ e hn3) _ rfl
end
end L07
end Mine
end
section
open PySem PySem.W PyProof.Rows PySem.Calls
set_option maxRecDepth 100000
namespace Mine
namespace L07
open PySem.Challenge
section
variable {G : Gr} {n : Nat} {env : Env} {σ : St}
set_option maxHeartbeats 4000000 in
theorem mid_ok {ns : List Int} {xs : List (List Nat)} {l : List Env} {at' : Addr} (T : Tp G) (hn : ns.length ≤ 63) (FE : FEnv env (df 13).scope) (hgood : ∀ t ∈ xs, Good t) (hshort : ∀ t ∈ xs, t.length ≤ 1000) (hxl : xs.length ≤ 1000) (body : List Stmt) (hbody : body = (df 13).body.drop 2) :
    ExP G (n + 4) env (HS G.base env l) [("script", .val (.list (ns.map .int))), ("texts", .own at' (rowsD xs))] body fun fl _ => fl = .ret (.bool true) := by
  subst hbody
  obtain ⟨aD, FD⟩ := T.decode
  obtain ⟨aP, FP⟩ := T.parted
  obtain ⟨aV, FV⟩ := T.preF
  have R : Rd G.base env (fpS l) (HS G.base env l) := rdS
  have hrl := rowsD_length xs
  have hat : ∀ d ∈ rowsD xs, Atomic d = true := fun d hd => by obtain ⟨t, _, rfl⟩ := List.mem_map.mp hd; rfl
  refine ExP.step R (.of (Ex1.assignF (EvF.borrow (x := "texts") (a := at') (ds := rowsD xs) rfl (EvF.listOf (FE.kind rfl) T.list (.name rfl) (.inl rfl) (by rw [hrl]; exact sz (by omega))) hat) (FE.loc rfl))) ?_
  rintro _ ⟨ak, rfl⟩
  refine ExP.freeze (x := "kept") rfl ?_
  have hd2 := decs_data hgood
  have hmap : ∀ ys : List (List Nat), ((rowsD ys).filter fun _ => true).map decD = ys.map dec := fun ys => by
    rw [List.filter_eq_self.mpr (by simp)]; unfold rowsD; rw [List.map_map]; rfl
  -- the first question
  refine ExP.cons R (ExP1.of (Ex1.ite (c := false) (Tr.borrow (x := "texts") (a := at') (ds := rowsD xs) rfl ((Tr.cmp (da := .list (xs.map dec)) (db := .list (xs.map dec)) (EvF.comp (CompOk.mk' (σc := []) (ds := rowsD xs) (f := fun d => setS "text" (.val d)) (keep := fun _ => true)
      (res := decD) (out := xs.map dec) FE trivial (.of_ev (.name rfl) .list) (fun d _ => trivial) (fun cenv CE d hd => ?_) ?_ (hmap xs))).ev.b (EvF.comp (CompOk.mk' (σc := []) (ds := rowsD xs) (f := fun d => setS "text" (.val d)) (keep := fun _ => true)
      (res := decD) (out := xs.map dec) FE trivial (.of_ev (.name rfl) .list) (fun d _ => trivial) (fun cenv CE d hd => ?_) ?_ (hmap xs))).ev.b (.ne hd2 hd2 (by decide))).cast (by rw [eqb_refl hd2]; rfl))) nofun (fun _ => Ex.nil ?_)))
  · obtain ⟨t, ht, rfl⟩ := List.mem_map.mp hd
    exact ⟨.name (CE.loc rfl), .nil, fun _ => .call (fn_ev FD (CE.glob rfl)) FD.callee (.cons (.name rfl) .nil) (decode_ok T (hshort t ht) (by have := cutN_len2 t; omega) FD)⟩
  · rw [hrl]; unfold sizeLine; omega
  · obtain ⟨t, ht, rfl⟩ := List.mem_map.mp hd
    exact ⟨.name (CE.loc rfl), .nil, fun _ => .call (fn_ev FP (CE.glob rfl)) FP.callee (.cons (.name rfl) .nil) (parted_ok T (hshort t ht) FP)⟩
  · rw [hrl]; unfold sizeLine; omega
  -- wanted
  refine ExP.step R (.of (Ex1.assignF (EvF.list .nil (by decide)) (FE.loc rfl))) ?_
  rintro _ ⟨aw, rfl⟩
  refine ExP.step R (P := fun σ' => ∃ aw, Sub (midW ns xs at' aw xs.length) σ') (.of (Ex1.for (f := fun d => setS "text" (.val d)) (ds := rowsD xs) (.of_ev (.name rfl) .list) (fun d _ => .name (FE.loc rfl)) (fun i σ' => ∃ aw, Sub (midW ns xs at' aw i) σ') ⟨aw, rfl, rfl, rfl, rfl, trivial⟩ ?_ ?_)) ?_
  · rintro i d σ₁ hd ⟨aw, hsub⟩
    unfold rowsD at hd
    rw [List.getElem?_map] at hd
    obtain ⟨t, ht, rfl⟩ := Option.map_eq_some_iff.mp hd
    have hsub' := Sub.set (x := "text") (s := .val (.str (S t))) hsub (by simp [midW]; decide)
    refine Ex.only (σ₀ := [("script", .val (.list (ns.map .int))), ("texts", .own at' (rowsD xs)), ("kept", .val (.list (rowsD xs))), ("wanted", .own aw ((xs.take i).map fun t => dec (pre t))), ("text", .val (.str (S t)))]) ⟨hsub'.1, hsub'.2.1, hsub'.2.2.1, hsub'.2.2.2.1, lookup_setS_self _, trivial⟩ ?_
    refine (want_turn T FE ht (hshort t (List.mem_of_getElem? ht)) hxl rfl).mono fun fl σ' q => ?_
    obtain ⟨rfl, q⟩ := q
    exact q
  · rintro σ₁ ⟨aw, hsub⟩
    rw [hrl] at hsub
    exact ⟨rfl, aw, hsub⟩
  · rintro σ₁ ⟨aw, hsub⟩
    refine ExP.only hsub ?_ (midW_nd ..)
    have hpg : ∀ t ∈ xs.map pre, Good t := fun t ht => by
      obtain ⟨q, hq, rfl⟩ := List.mem_map.mp ht
      exact pre_good (hgood q hq)
    have hps : ∀ t ∈ xs.map pre, t.length ≤ 1000 := fun t ht => by
      obtain ⟨q, hq, rfl⟩ := List.mem_map.mp ht
      unfold pre
      split
      · exact hshort q hq
      · decide
    have hd3 : (D.list ((xs.take xs.length).map fun t => dec (pre t))).data 2 = true := by
      rw [List.take_length]
      have := decs_data hpg
      rw [List.map_map] at this
      exact this
    have hout : ((rowsD (xs.map pre)).filter fun _ => true).map decD = (xs.take xs.length).map fun t => dec (pre t) := by
      rw [hmap, List.take_length, List.map_map]; rfl
    refine ExP.cons R (ExP1.of (Ex1.ite (c := false) (Tr.borrow (x := "texts") (a := at') (ds := rowsD xs) rfl ((Tr.cmp (da := .list ((xs.take xs.length).map fun t => dec (pre t))) (db := .list ((xs.take xs.length).map fun t => dec (pre t))) (EvF.comp (CompOk.mk' (σc := []) (ds := rowsD (xs.map pre)) (f := fun d => setS "text" (.val d)) (keep := fun _ => true)
      (res := decD) FE trivial (.of_ev (.call (fn_ev FV (FE.kind rfl)) FV.callee (.cons (.name rfl) .nil) (pre_ok (n := n) T.toPj (fun t ht => by have := hshort t ht; omega) (by omega) .list FV)) .list) (fun d _ => trivial) (fun cenv CE d hd => ?_) ?_ hout)).ev.b (EvB.own rfl) (.ne hd3 hd3 (by decide))).cast (by rw [eqb_refl hd3]; rfl))) nofun (fun _ => Ex.nil ?_)))
    · obtain ⟨t, ht, rfl⟩ := List.mem_map.mp hd
      exact ⟨.name (CE.loc rfl), .nil, fun _ => .call (fn_ev FD (CE.glob rfl)) FD.callee (.cons (.name rfl) .nil) (decode_ok T (hps t ht) (by have := cutN_len2 t; omega) FD)⟩
    · rw [rowsD_length, List.length_map]; unfold sizeLine; omega
    exact others_ok (n := n + 2) T hn FE hgood hxl _ rfl
def txS (ns : List Int) (xs : List (List Nat)) (a : Addr) : St := [("script", .val (.list (ns.map .int))), ("texts", .own a (rowsD xs))]
structure TxOk (xs : List (List Nat)) (i : Nat) : Prop where
  ne : xs ≠ []
  good : ∀ t ∈ xs, Good t
  short : ∀ t ∈ xs, t.length ≤ i
  len : xs.length ≤ i + 1
set_option maxHeartbeats 4000000 in
theorem text_turn {ns : List Int} {xs : List (List Nat)} {k : Int} {a : Addr} {i : Nat} (T : Tp G) (FE : FEnv env (df 13).scope) (ok : TxOk xs i) (hi : i ≤ 63) {body : List Stmt} (hbody : body = (match ((df 13).body.drop 1) with | .For _ _ b _ _ :: _ => b | _ => [])) :
    Ex G (n + 4) env [("script", .val (.list (ns.map .int))), ("texts", .own a (rowsD xs)), ("number", .val (.int k))] body fun fl σ₂ => fl = .next ∧ ∃ a ys, TxOk ys (i + 1) ∧ Sub (txS ns ys a) σ₂ := by
  subst hbody
  obtain ⟨as, FS⟩ := T.sign
  have hlen := ok.len
  have hrl := rowsD_length xs
  by_cases h8 : k.fmod 10 = 8
  · refine Ex.cons (Ex1.ite (c := true) ((Tr.cmp (Ev.binop (.name rfl) .int (.mod (by decide))).b Ev.int.b .eq_int).cast (by rw [h8]; rfl)) (fun _ => ?_) nofun)
    refine Ex.one (Ex1.append (d := .str (S [])) rfl .str (by rw [hrl]; unfold sizeLine; omega)) (Ex.nil (Ex.nil ⟨rfl, a, xs ++ [[]], ⟨by simp, ?_, ?_, by simp; omega⟩, rfl, ?_, trivial⟩))
    · intro t ht
      rcases List.mem_append.mp ht with m | m
      · exact ok.good t m
      · rw [List.mem_singleton.mp m]; exact nofun
    · intro t ht
      rcases List.mem_append.mp ht with m | m
      · have := ok.short t m; omega
      · rw [List.mem_singleton.mp m]; simp
    · show some _ = some _
      simp [rowsD]
  · obtain ⟨c, hc, hcall⟩ := sign_ok (n := n + 3) T h8 FS
    obtain ⟨r, z, rfl⟩ : ∃ r z, xs = r ++ [z] := ⟨xs.dropLast, xs.getLast ok.ne, (List.dropLast_concat_getLast ok.ne).symm⟩
    have hz := ok.short z (by simp)
    have hget : ((-1 : Int) + ((rowsD (r ++ [z])).length : Int)).toNat = r.length := by rw [rowsD_length]; simp; omega
    refine Ex.cons (Ex1.ite (c := false) ((Tr.cmp (Ev.binop (.name rfl) .int (.mod (by decide))).b Ev.int.b .eq_int).cast (by simp [h8])) nofun (fun _ => ?_))
    refine Ex.one (Ex1.setItem (d := .str (S (z ++ [c]))) (j := -1) rfl ((Ev.binop (Ev.itemOwn (d := .str (S z)) rfl (.neg .int) (.inr ⟨by decide, by rw [rowsD_length]; simp; omega, by decide, ?_⟩)) (.call (fn_ev FS (FE.kind rfl)) FS.callee (.cons (.name rfl) .nil) hcall) (.add_str (sz (by rw [S_length, S_length]; simp; omega)))).cast (by rw [S_app])) (.neg .int) r.length (.inr ⟨by decide, by rw [rowsD_length]; simp; omega, by decide, hget⟩)) (Ex.nil (Ex.nil ⟨rfl, a, r ++ [z ++ [c]], ⟨by simp, ?_, ?_, ?_⟩, rfl, ?_, trivial⟩))
    · show (rowsD (r ++ [z]))[((-1 : Int) + ((rowsD (r ++ [z])).length : Int)).toNat]? = _
      rw [hget]; simp [rowsD]
    · intro t ht
      rcases List.mem_append.mp ht with m | m
      · exact ok.good t (by simp [m])
      · rw [List.mem_singleton.mp m]
        intro d hd
        rcases List.mem_append.mp hd with hd | hd
        · exact ok.good z (by simp) d hd
        · rw [List.mem_singleton.mp hd]; exact hc
    · intro t ht
      rcases List.mem_append.mp ht with m | m
      · have := ok.short t (by simp [m]); omega
      · rw [List.mem_singleton.mp m]; simp; omega
    · simp at hlen ⊢; omega
    · show some _ = some _
      congr 2
      unfold rowsD
      rw [List.map_append, List.set_append_right _ _ (by simp)]
      simp
set_option maxHeartbeats 4000000 in
theorem law_call {ns : List Int} (T : Tp G) (hn : ns.length ≤ 63) {a : Addr} (F : FnAt G (df 13) a) : CallP G (n + 5) (.ref a) [.list (ns.map .int)] (.bool true) := by
  refine CallP.fn1 (x := "script") F (fun env l FE => ?_)
  have R : Rd G.base env (fpS l) (HS G.base env l) := rdS
  refine ExP.step R (.of (Ex1.assignF (ds := rowsD [[]]) (EvF.list (.cons .str .nil) (by decide)) (FE.loc rfl))) ?_
  rintro _ ⟨a0, rfl⟩
  refine ExP.step R (P := fun σ' => ∃ a ys, TxOk ys ns.length ∧ Sub (txS ns ys a) σ') (.of (Ex1.for (f := fun d => setS "number" (.val d)) (ds := ns.map .int) (.of_ev (.name rfl) .list) (fun d _ => .name (FE.loc rfl)) (fun i σ' => ∃ a ys, TxOk ys i ∧ Sub (txS ns ys a) σ')
    ⟨a0, [[]], ⟨by simp, fun t ht => by rw [List.mem_singleton.mp ht]; exact nofun, fun t ht => by rw [List.mem_singleton.mp ht]; simp, by simp⟩, rfl, rfl, trivial⟩ ?_ ?_)) ?_
  · rintro i d σ₁ hd ⟨a, ys, ok, hsub⟩
    rw [List.getElem?_map] at hd
    obtain ⟨k, hk, rfl⟩ := Option.map_eq_some_iff.mp hd
    have hlt : i < ns.length := (List.getElem?_eq_some_iff.mp hk).1
    have hsub' := Sub.set (x := "number") (s := .val (.int k)) hsub (by simp [txS]; decide)
    refine Ex.only (σ₀ := [("script", .val (.list (ns.map .int))), ("texts", .own a (rowsD ys)), ("number", .val (.int k))]) ⟨hsub'.1, hsub'.2.1, lookup_setS_self _, trivial⟩ ?_
    refine (text_turn T FE ok (by omega) rfl).mono fun fl σ' q => ?_
    obtain ⟨rfl, q⟩ := q
    exact q
  · rintro σ₁ ⟨a, ys, ok, hsub⟩
    rw [List.length_map] at ok
    exact ⟨rfl, a, ys, ok, hsub⟩
  · rintro σ₁ ⟨a, ys, ok, hsub⟩
    refine ExP.only hsub ?_ (by simp [txS]; decide)
    exact mid_ok T hn FE ok.good (fun t ht => by have := ok.short t ht; omega) (by have := ok.len; omega) _ rfl
end
end L07
end Mine
end
section
open PySem PySem.W PyProof.Rows
set_option maxRecDepth 100000 in
set_option maxHeartbeats 8000000 in
theorem PySem.Challenge.cw_dm0097_07_holds : PySem.Challenge.rw_dm0097_07.Holds := by
  w_on; o_law; k_head; (case hw => w_witness2)
  k_fill
  intro w s₀ s₁ mg mb G Y fa o pm cd doc dV kV ho hd hcd hD hmg hg args vals as hpre hlay hrd hwl hlo
  refine Ground.open G ?_
  intro T B D TE TW
  clear hd hcd hD
  wrow_args hpre hlay hrd hwl hlo
  rename_i hL _ _ _ hI _ hc _
  refine Mine.law_finP T hL hI hg (Mine.L07.law_call (n := 0) (F := Mine.fnAt_law T hmg 10 (by kernel_rfl)) ?tp ?len) (by decide) (by intro _; rfl) ?post
  case post => wrow_post
  case len => omega
  case tp => exact {
    len := Mine.free_of T _ (by decide +kernel)
    enum := Mine.free_of T _ (by decide +kernel)
    iter := Mine.fnAt_of T 0 (by kernel_rfl)
    strip := Mine.fnAt_of T 1 (by kernel_rfl)
    check := Mine.fnAt_of T 2 (by kernel_rfl)
    tick := Mine.str_of T _ _ (by kernel_rfl)
    chr := Mine.free_of T _ (by decide +kernel)
    list := Mine.free_of T _ (by decide +kernel)
    tuple := Mine.free_of T _ (by decide +kernel)
    zip := Mine.free_of T _ (by decide +kernel)
    bytes := Mine.free_of T _ (by decide +kernel)
    str := Mine.free_of T _ (by decide +kernel)
    ae := Mine.free_of T _ (by decide +kernel)
    te := Mine.free_of T _ (by decide +kernel)
    preF := Mine.fnAt_of T 3 (by kernel_rfl)
    decode := Mine.fnAt_of T 4 (by kernel_rfl)
    behind := Mine.fnAt_of T 5 (by kernel_rfl)
    soundF := Mine.fnAt_of T 6 (by kernel_rfl)
    parted := Mine.fnAt_of T 7 (by kernel_rfl)
    sign := Mine.fnAt_of T 8 (by kernel_rfl)
    fault := Mine.fnAt_of T 9 (by kernel_rfl) }
end
