import PyProof.Rows.All
import Wide.All
import OpenK.AllK
import Wide.FinOn
import PySem.Challenge.RW_dm0097_09
set_option Elab.async false
set_option linter.unusedVariables false
set_option linter.unusedSimpArgs false
section
open PySem PySem.W PyProof.Rows
set_option maxRecDepth 100000
namespace Mine
/-- deep data: what a value says, all the way down -/
inductive D where
  | none
  | bool (b : Bool)
  | int (i : Int)
  | str (x : Str)
  | bytes (b : Array UInt8)
  | raw (v : Value)
  | tuple (ds : List D)
  | list (ds : List D)
  | slice (l u st : D)
  | rng (lo hi : Int)
mutual
inductive Rep (ok : Addr → Prop) (h : Heap) : Value → D → Prop
  | none : Rep ok h .none .none
  | bool (b : Bool) : Rep ok h (.bool b) (.bool b)
  | int (i : Int) (t : Tok) : Rep ok h (.int i t) (.int i)
  | str (x : Str) (t : Tok) : Rep ok h (.str x t) (.str x)
  | bytes (b : Array UInt8) (t : Tok) : Rep ok h (.bytes b t) (.bytes b)
  | raw (v : Value) : Rep ok h v (.raw v)
  | tuple {a : Addr} {vs : List Value} {ds : List D} : ok a → IsTup h a vs.toArray → RepAll ok h vs ds → Rep ok h (.ref a) (.tuple ds)
  | list {a : Addr} {vs : List Value} {ds : List D} : ok a → h.IsList a vs.toArray → RepAll ok h vs ds → Rep ok h (.ref a) (.list ds)
  | slice {a : Addr} {o : Obj} {v1 v2 v3 : Value} {l u st : D} : ok a → h.get? a = some o → o.cls = .type "slice" → o.data = .fields #[v1, v2, v3] → Rep ok h v1 l → Rep ok h v2 u → Rep ok h v3 st → Rep ok h (.ref a) (.slice l u st)
  | rng {a : Addr} {lo hi : Int} {t1 t2 t3 : Tok} : ok a → IsRange h a lo hi 1 t1 t2 t3 → Rep ok h (.ref a) (.rng lo hi)
inductive RepAll (ok : Addr → Prop) (h : Heap) : List Value → List D → Prop
  | nil : RepAll ok h [] []
  | cons {v : Value} {vs : List Value} {d : D} {ds : List D} : Rep ok h v d → RepAll ok h vs ds → RepAll ok h (v :: vs) (d :: ds)
end
def isDict : Data → Bool
  | .dict .. => true
  | _ => false
/-- what stood stands: plain objects to the sign, namespaces up to their marks -/
def Ext (base h h' : Heap) : Prop := ∀ b o, h.get? b = some o → ∃ o', h'.get? b = some o' ∧ o'.cls = o.cls ∧ o'.data = o.data ∧ ((base.get? b).isSome = true ∨ isDict o.data = false → o' = o)
theorem Ext.of_stays {base h h' : Heap} (k : ∀ b o, h.get? b = some o → h'.get? b = some o) : Ext base h h' := fun b o e => ⟨o, k b o e, rfl, rfl, fun _ => rfl⟩
theorem Ext.refl {base h : Heap} : Ext base h h := .of_stays fun _ _ e => e
theorem Ext.trans {base h₁ h₂ h₃ : Heap} (x : Ext base h₁ h₂) (y : Ext base h₂ h₃) : Ext base h₁ h₃ := by
  intro b o e
  obtain ⟨o', e', c', d', k'⟩ := x b o e
  obtain ⟨o'', e'', c'', d'', k''⟩ := y b o' e'
  refine ⟨o'', e'', c''.trans c', d''.trans d', fun q => ?_⟩
  have := k' q; subst this
  exact k'' q
theorem Ext.base {base h h' : Heap} (x : Ext base h h') (k : base.StaysIn h) : base.StaysIn h' := by
  intro b o e
  obtain ⟨o', e', _, _, k'⟩ := x b o (k b o e)
  rw [e', k' (.inl (by rw [e]; rfl))]
theorem Ext.list {base h h' : Heap} {a : Addr} {items : Array Value} (x : Ext base h h') (l : h.IsList a items) : h'.IsList a items := by
  obtain ⟨o, e, c, n, d⟩ := l
  obtain ⟨o', e', c', d', _⟩ := x a o e
  exact ⟨o', e', c'.trans c, n, d'.trans d⟩
theorem Ext.tup {base h h' : Heap} {a : Addr} {items : Array Value} (x : Ext base h h') (l : IsTup h a items) : IsTup h' a items := by
  obtain ⟨o, e, c, n, d⟩ := l
  obtain ⟨o', e', c', d', _⟩ := x a o e
  exact ⟨o', e', c'.trans c, n, d'.trans d⟩
theorem Ext.ns {base h h' : Heap} {a : Addr} {m : Str → Option Value} (x : Ext base h h') (l : h.Ns a m) : h'.Ns a m := by
  obtain ⟨o, es, ep, e, d, r⟩ := l
  obtain ⟨o', e', _, d', _⟩ := x a o e
  exact ⟨o', es, ep, e', d'.trans d, r⟩
theorem Ext.cell {base h h' : Heap} {a : Addr} {v : Option Value} (x : Ext base h h') (l : h.IsCell a v) : h'.IsCell a v := by
  obtain ⟨o, e, d⟩ := l
  obtain ⟨o', e', _, d', _⟩ := x a o e
  exact ⟨o', e', d'.trans d⟩
theorem Ext.none {base h h' : Heap} {b : Addr} (x : Ext base h h') (e : h'.get? b = none) : h.get? b = none := by
  cases q : h.get? b with
  | none => rfl
  | some o => obtain ⟨o', e', _⟩ := x b o q; rw [e'] at e; cases e
mutual
theorem Rep.ext {ok ok' : Addr → Prop} {base h h' : Heap} (x : Ext base h h') (k : ∀ a, ok a → (h.get? a).isSome = true → ok' a) : ∀ {v : Value} {d : D}, Rep ok h v d → Rep ok' h' v d
  | _, _, .none => .none
  | _, _, .bool b => .bool b
  | _, _, .int i t => .int i t
  | _, _, .str y t => .str y t
  | _, _, .bytes b t => .bytes b t
  | _, _, .raw v => .raw v
  | _, _, .tuple o l r => .tuple (k _ o (by obtain ⟨_, e, _⟩ := l; rw [e]; rfl)) (x.tup l) (RepAll.ext x k r)
  | _, _, .list o l r => .list (k _ o (by obtain ⟨_, e, _⟩ := l; rw [e]; rfl)) (x.list l) (RepAll.ext x k r)
  | _, _, .slice o e c d p q r => .slice (k _ o (by rw [e]; rfl)) (by
      obtain ⟨o', e', c', d', k'⟩ := x _ _ e
      rw [k' (.inr (by rw [d]; rfl))] at e'; exact e') c d (Rep.ext x k p) (Rep.ext x k q) (Rep.ext x k r)
  | _, _, .rng o e => .rng (k _ o (by unfold IsRange at e; rw [e]; rfl)) (by
      unfold IsRange at e ⊢
      obtain ⟨o', e', c', d', k'⟩ := x _ _ e
      rw [k' (.inr rfl)] at e'; exact e')
theorem RepAll.ext {ok ok' : Addr → Prop} {base h h' : Heap} (x : Ext base h h') (k : ∀ a, ok a → (h.get? a).isSome = true → ok' a) : ∀ {vs : List Value} {ds : List D}, RepAll ok h vs ds → RepAll ok' h' vs ds
  | _, _, .nil => .nil
  | _, _, .cons a r => .cons (Rep.ext x k a) (RepAll.ext x k r)
end
/-- an object that may stand in a tree -/
inductive IsNode (h : Heap) (a : Addr) : Prop
  | list {vs : Array Value} : h.IsList a vs → IsNode h a
  | tup {vs : Array Value} : IsTup h a vs → IsNode h a
  | slice {o : Obj} {v1 v2 v3 : Value} : h.get? a = some o → o.cls = .type "slice" → o.data = .fields #[v1, v2, v3] → IsNode h a
  | rng {lo hi : Int} {t1 t2 t3 : Tok} : IsRange h a lo hi 1 t1 t2 t3 → IsNode h a
/-- all but the objects W stands -/
def ExtBut (base : Heap) (W : Addr → Prop) (h h' : Heap) : Prop := ∀ b o, ¬ W b → h.get? b = some o → ∃ o', h'.get? b = some o' ∧ o'.cls = o.cls ∧ o'.data = o.data ∧ ((base.get? b).isSome = true ∨ isDict o.data = false → o' = o)
mutual
theorem Rep.extBut {ok ok' : Addr → Prop} {base h h' : Heap} {W : Addr → Prop} (x : ExtBut base W h h') (n : ∀ a, ok a → IsNode h a → ¬ W a) (k : ∀ a, ok a → (h.get? a).isSome = true → ok' a) : ∀ {v : Value} {d : D}, Rep ok h v d → Rep ok' h' v d
  | _, _, .none => .none
  | _, _, .bool b => .bool b
  | _, _, .int i t => .int i t
  | _, _, .str y t => .str y t
  | _, _, .bytes b t => .bytes b t
  | _, _, .raw v => .raw v
  | _, _, .tuple o l r => .tuple (k _ o (by obtain ⟨_, e, _⟩ := l; rw [e]; rfl)) (by
      have q := n _ o (.tup l)
      obtain ⟨o₁, e, c, m, d⟩ := l
      obtain ⟨o', e', c', d', _⟩ := x _ o₁ q e
      exact ⟨o', e', c'.trans c, m, d'.trans d⟩) (RepAll.extBut x n k r)
  | _, _, .list o l r => .list (k _ o (by obtain ⟨_, e, _⟩ := l; rw [e]; rfl)) (by
      have q := n _ o (.list l)
      obtain ⟨o₁, e, c, m, d⟩ := l
      obtain ⟨o', e', c', d', _⟩ := x _ o₁ q e
      exact ⟨o', e', c'.trans c, m, d'.trans d⟩) (RepAll.extBut x n k r)
  | _, _, .slice o e c d p q r => .slice (k _ o (by rw [e]; rfl)) (by
      obtain ⟨o', e', c', d', k'⟩ := x _ _ (n _ o (.slice e c d)) e
      rw [k' (.inr (by rw [d]; rfl))] at e'; exact e') c d (Rep.extBut x n k p) (Rep.extBut x n k q) (Rep.extBut x n k r)
  | _, _, .rng o e => .rng (k _ o (by unfold IsRange at e; rw [e]; rfl)) (by
      unfold IsRange at e ⊢
      obtain ⟨o', e', c', d', k'⟩ := x _ _ (n _ o (.rng e)) e
      rw [k' (.inr rfl)] at e'; exact e')
theorem RepAll.extBut {ok ok' : Addr → Prop} {base h h' : Heap} {W : Addr → Prop} (x : ExtBut base W h h') (n : ∀ a, ok a → IsNode h a → ¬ W a) (k : ∀ a, ok a → (h.get? a).isSome = true → ok' a) : ∀ {vs : List Value} {ds : List D}, RepAll ok h vs ds → RepAll ok' h' vs ds
  | _, _, .nil => .nil
  | _, _, .cons a r => .cons (Rep.extBut x n k a) (RepAll.extBut x n k r)
end
theorem RepAll.length {ok : Addr → Prop} {h : Heap} {vs : List Value} {ds : List D} (r : RepAll ok h vs ds) : vs.length = ds.length := by
  induction vs generalizing ds with
  | nil => cases r; rfl
  | cons v vs ih => cases r with | cons _ r => rw [List.length_cons, List.length_cons, ih r]
theorem RepAll.append {ok : Addr → Prop} {h : Heap} {vs ws : List Value} {ds es : List D} (r : RepAll ok h vs ds) (k : RepAll ok h ws es) : RepAll ok h (vs ++ ws) (ds ++ es) := by
  induction vs generalizing ds with
  | nil => cases r; exact k
  | cons v vs ih => cases r with | cons a r => exact .cons a (ih r)
theorem RepAll.get {ok : Addr → Prop} {h : Heap} {vs : List Value} {ds : List D} (r : RepAll ok h vs ds) {k : Nat} {d : D} (hk : ds[k]? = some d) : ∃ v, vs[k]? = some v ∧ Rep ok h v d := by
  induction vs generalizing ds k with
  | nil => cases r; cases hk
  | cons v vs ih =>
    cases r with
    | cons a r =>
      cases k with
      | zero => cases hk; exact ⟨v, rfl, a⟩
      | succ k => exact ih r hk
end Mine
end
section
open PySem PySem.W PyProof.Rows
set_option maxRecDepth 100000
namespace Mine
/-- the ground: what stands behind the top -/
structure Gr where
  prog : Program
  w : World
  base : Heap
  mg : Str → Option Value
  mb : Str → Option Value
  g : base.Ns mainGlobals mg
  b : base.Ns builtinsNs mb
  bb : ∀ x : Str, x ≠ "__name__" → mb x = bootBuiltins x
  nolimit : base.NoLimit
abbrev Gr.M (G : Gr) : Model := model G.prog G.w
/-- room for n more calls -/
structure Room (n : Nat) (A : Around) : Prop where
  handled : A.handled = none
  depth : A.depth + n < recursionLimit
  units : A.units + 30 * n + 500 < cLine
theorem Room.deeper {n : Nat} {A : Around} {env : Env} (r : Room (n + 1) A) : Room n (A.deeper env) := ⟨r.handled, by have := r.depth; show A.depth + 1 + n < _; omega, by have := r.units; show A.units + 3 + 30 * n + 500 < _; omega⟩
/-- old generators stay as they are -/
structure GensKeep (g g' : Array GenState) : Prop where
  keep : ∀ (i : Nat) (x : GenState), g[i]? = some x → g'[i]? = some x
  bare : (∀ x ∈ g, x.bare = true) → ∀ x ∈ g', x.bare = true
theorem GensKeep.refl {g : Array GenState} : GensKeep g g := ⟨fun _ _ h => h, fun h => h⟩
theorem GensKeep.trans {a b c : Array GenState} (x : GensKeep a b) (y : GensKeep b c) : GensKeep a c := ⟨fun i z h => y.keep i z (x.keep i z h), fun h => y.bare (x.bare h)⟩
/-- a step that only adds -/
structure Stp (base : Heap) (s s' : Shared) : Prop where
  ext : Ext base s.heap s'.heap
  os : s'.os = s.os
  gens : GensKeep s.gens s'.gens
theorem Stp.refl {base : Heap} {s : Shared} : Stp base s s := ⟨.refl, rfl, .refl⟩
theorem Stp.trans {base : Heap} {a b c : Shared} (x : Stp base a b) (y : Stp base b c) : Stp base a c := ⟨x.ext.trans y.ext, y.os.trans x.os, x.gens.trans y.gens⟩
theorem Stp.heap {base : Heap} {s : Shared} {h' : Heap} {tk : Nat} (k : ∀ b o, s.heap.get? b = some o → h'.get? b = some o) : Stp base s { s with heap := h', toks := tk } := ⟨.of_stays k, rfl, .refl⟩
theorem Stp.tok {base : Heap} {s : Shared} {tk : Nat} : Stp base s { s with toks := tk } := ⟨.refl, rfl, .refl⟩
theorem Stp.push {base : Heap} {s : Shared} {o : Obj} {tk : Nat} : Stp base s { s with heap := s.heap.push o, toks := tk } := .heap fun _ _ e => Heap.get?_push_of_some _ e
def FreshOk (ok : Addr → Prop) (h : Heap) : Prop := ∀ b, h.get? b = none → ok b
theorem FreshOk.stp {ok : Addr → Prop} {base h h' : Heap} (f : FreshOk ok h) (x : Ext base h h') : FreshOk ok h' := fun b e => f b (x.none e)
theorem Rep.stp {ok : Addr → Prop} {base : Heap} {s s' : Shared} {v : Value} {d : D} (r : Rep ok s.heap v d) (x : Stp base s s') : Rep ok s'.heap v d := r.ext x.ext fun _ h _ => h
theorem RepAll.stp {ok : Addr → Prop} {base : Heap} {s s' : Shared} {vs : List Value} {ds : List D} (r : RepAll ok s.heap vs ds) (x : Stp base s s') : RepAll ok s'.heap vs ds := r.ext x.ext fun _ h _ => h
theorem Rep.weak {ok ok' : Addr → Prop} {h : Heap} {v : Value} {d : D} (r : Rep ok h v d) (k : ∀ a, ok a → ok' a) : Rep ok' h v d := r.ext (base := h) .refl fun a h _ => k a h
theorem RepAll.weak {ok ok' : Addr → Prop} {h : Heap} {vs : List Value} {ds : List D} (r : RepAll ok h vs ds) (k : ∀ a, ok a → ok' a) : RepAll ok' h vs ds := r.ext (base := h) .refl fun a h _ => k a h
inductive Slot where
  | val (d : D)
  | own (a : Addr) (ds : List D)
abbrev St := List (Str × Slot)
def owned : St → List Addr
  | [] => []
  | (_, .own a _) :: r => a :: owned r
  | (_, .val _) :: r => owned r
def setS (x : Str) (s : Slot) : St → St
  | [] => [(x, s)]
  | (y, t) :: r => if x = y then (x, s) :: r else (y, t) :: setS x s r
def okO (ok : Addr → Prop) (σ : St) (a : Addr) : Prop := ok a ∧ a ∉ owned σ
/-- where a name of the frame lies -/
def Holds (env : Env) (h : Heap) (x : Str) (v : Value) : Prop :=
  (env.kindOf x = some .local ∧ ∃ m, h.Ns env.locals m ∧ m x = some v) ∨
  ((env.kindOf x = some .cell ∨ env.kindOf x = some .free) ∧ ∃ c, env.cells.lookup x = some c ∧ h.IsCell c (some v))
theorem Holds.ext {base h h' : Heap} {env : Env} {x : Str} {v : Value} (e : Ext base h h') (q : Holds env h x v) : Holds env h' x v := by
  rcases q with ⟨k, m, n, r⟩ | ⟨k, c, l, r⟩
  · exact .inl ⟨k, m, e.ns n, r⟩
  · exact .inr ⟨k, c, l, e.cell r⟩
structure Frame (env : Env) (h : Heap) : Prop where
  kind : env.scope.kind = .function
  ns : ∃ m, h.Ns env.locals m
  cells : ∀ x c, env.cells.lookup x = some c → ∃ v, h.IsCell c v
  apart : env.cells.Pairwise fun x y => x.2 ≠ y.2
  away : ∀ x c, env.cells.lookup x = some c → c ≠ env.locals
  glob : env.globals = mainGlobals
  blt : env.builtins = builtinsNs
theorem Frame.ext {base h h' : Heap} {env : Env} (e : Ext base h h') (q : Frame env h) : Frame env h' :=
  ⟨q.kind, q.ns.imp fun _ n => e.ns n, fun x c l => (q.cells x c l).imp fun _ n => e.cell n, q.apart, q.away, q.glob, q.blt⟩
/-- the objects that a frame may write -/
def FrW (env : Env) (a : Addr) : Prop := a = env.locals ∨ ∃ x, env.cells.lookup x = some a
def Wr (env : Env) (σ : St) (a : Addr) : Prop := FrW env a ∨ a ∈ owned σ
/-- a list of the program's own making -/
def OwnL (h : Heap) (a : Addr) (vs : List Value) : Prop := ∃ n, h.get? a = some (listOf vs.toArray n)
theorem OwnL.list {h : Heap} {a : Addr} {vs : List Value} (l : OwnL h a vs) : h.IsList a vs.toArray := let ⟨n, e⟩ := l; ⟨_, e, rfl, n, rfl⟩
theorem OwnL.some {h : Heap} {a : Addr} {vs : List Value} (l : OwnL h a vs) : (h.get? a).isSome = true := by obtain ⟨n, e⟩ := l; rw [e]; rfl
theorem Ext.own {base h h' : Heap} {a : Addr} {vs : List Value} (x : Ext base h h') (l : OwnL h a vs) : OwnL h' a vs := by
  obtain ⟨n, e⟩ := l
  obtain ⟨o', e', _, _, k⟩ := x a _ e
  rw [k (.inr rfl)] at e'; exact ⟨n, e'⟩
theorem ExtBut.own {base h h' : Heap} {W : Addr → Prop} {a : Addr} {vs : List Value} (x : ExtBut base W h h') (w : ¬ W a) (l : OwnL h a vs) : OwnL h' a vs := by
  obtain ⟨n, e⟩ := l
  obtain ⟨o', e', _, _, k⟩ := x a _ w e
  rw [k (.inr rfl)] at e'; exact ⟨n, e'⟩
structure Inv (base : Heap) (ok : Addr → Prop) (env : Env) (σ : St) (h : Heap) : Prop where
  frame : Frame env h
  off : ∀ a, Wr env σ a → base.get? a = none
  fresh : FreshOk ok h
  vals : ∀ x d, σ.lookup x = some (.val d) → ∃ v, Holds env h x v ∧ Rep (okO ok σ) h v d
  owns : ∀ x a ds, σ.lookup x = some (.own a ds) → Holds env h x (.ref a) ∧ ok a ∧ ∃ vs, OwnL h a vs ∧ RepAll (okO ok σ) h vs ds
  there : ∀ a ∈ owned σ, ∃ vs, OwnL h a vs
  once : (owned σ).Nodup
theorem Inv.ext {ok : Addr → Prop} {base h h' : Heap} {env : Env} {σ : St} (e : Ext base h h') (i : Inv base ok env σ h) : Inv base ok env σ h' where
  frame := i.frame.ext e
  off := i.off
  fresh := i.fresh.stp e
  vals := fun x d l => let ⟨v, a, r⟩ := i.vals x d l; ⟨v, a.ext e, r.ext e fun _ h _ => h⟩
  owns := fun x a ds l => let ⟨p, q, vs, r, t⟩ := i.owns x a ds l; ⟨p.ext e, q, vs, e.own r, t.ext e fun _ h _ => h⟩
  there := fun a m => (i.there a m).imp fun _ r => e.own r
  once := i.once
theorem Inv.freshO {ok : Addr → Prop} {base h : Heap} {env : Env} {σ : St} (i : Inv base ok env σ h) : FreshOk (okO ok σ) h := fun b e => ⟨i.fresh b e, fun m => by
  obtain ⟨vs, k, q⟩ := i.there b m
  rw [e] at q; cases q⟩
section
variable (G : Gr) (n : Nat)
/-- an expression's value -/
def Ev (env : Env) (σ : St) (e : Expr) (d : D) : Prop := ∀ ok A s E, Room n A → G.base.StaysIn s.heap → Inv G.base ok env σ s.heap →
  wpAny G.M A (eval e env) (fun v s' => Stp G.base s s' ∧ Rep (okO ok σ) s'.heap v d) E s
/-- a test's answer -/
def Tr (env : Env) (σ : St) (e : Expr) (b : Bool) : Prop := ∀ ok A s E, Room n A → G.base.StaysIn s.heap → Inv G.base ok env σ s.heap →
  wpAny G.M A (isTrue e env (eval e env)) (fun r s' => Stp G.base s s' ∧ r = b) E s
def BinD (op : Operator) (da db d : D) : Prop := ∀ ok A s E va vb, Room n A → G.base.StaysIn s.heap → FreshOk ok s.heap → Rep ok s.heap va da → Rep ok s.heap vb db →
  wpAny G.M A (binaryOp op va vb) (fun v s' => Stp G.base s s' ∧ Rep ok s'.heap v d) E s
def CmpD (op : CmpOp) (da db : D) (b : Bool) : Prop := ∀ ok A s E va vb, Room n A → G.base.StaysIn s.heap → FreshOk ok s.heap → Rep ok s.heap va da → Rep ok s.heap vb db →
  wpAny G.M A (compareOp op va vb) (fun v s' => Stp G.base s s' ∧ v = .bool b) E s
def CallD (f : Value) (ds : List D) (d : D) : Prop := ∀ ok A s E vs, Room n A → G.base.StaysIn s.heap → FreshOk ok s.heap → RepAll ok s.heap vs ds →
  wpAny G.M A (call f vs) (fun v s' => Stp G.base s s' ∧ Rep ok s'.heap v d) E s
def TruD (d : D) (b : Bool) : Prop := ∀ ok A s E v, Room n A → G.base.StaysIn s.heap → FreshOk ok s.heap → Rep ok s.heap v d →
  wpAny G.M A (truthy v) (fun r s' => Stp G.base s s' ∧ r = b) E s
def IdxD (do_ di d : D) : Prop := ∀ ok A s E vo vi, Room n A → G.base.StaysIn s.heap → FreshOk ok s.heap → Rep ok s.heap vo do_ → Rep ok s.heap vi di →
  wpAny G.M A (getItem vo vi) (fun v s' => Stp G.base s s' ∧ Rep ok s'.heap v d) E s
/-- the call of a method comes to this callee with the object first -/
def MethD (d : D) (name : Str) (f : Value) : Prop := ∀ ok A s E v pl, Room n A → G.base.StaysIn s.heap → FreshOk ok s.heap → Rep ok s.heap v d →
  wpAny G.M A (getMethod v name pl) (fun r s' => Stp G.base s s' ∧ r = (f, [v])) E s
end
end Mine
end
section
open PySem PySem.W PyProof.Rows PySem.Calls
set_option maxRecDepth 100000
namespace Mine
section
variable {G : Gr} {n : Nat} {env : Env} {σ : St}
/-- borrowed: the value may be a list that the frame still fills -/
def EvB (G : Gr) (n : Nat) (env : Env) (σ : St) (e : Expr) (d : D) : Prop := ∀ ok A s E, Room n A → G.base.StaysIn s.heap → Inv G.base ok env σ s.heap →
  wpAny G.M A (eval e env) (fun v s' => Stp G.base s s' ∧ Rep ok s'.heap v d) E s
theorem Ev.b {e : Expr} {d : D} (h : Ev G n env σ e d) : EvB G n env σ e d := fun ok A s E r k i =>
  wpAny_mono (h ok A s E r k i) (fun _ _ p => ⟨p.1, p.2.weak fun _ q => q.1⟩) fun _ _ x => x
theorem Ev.cast {e : Expr} {d d' : D} (h : Ev G n env σ e d) (q : d = d') : Ev G n env σ e d' := q ▸ h
def Atomic : D → Bool
  | .none | .bool _ | .int _ | .str _ | .bytes _ | .raw _ => true
  | _ => false
theorem Rep.atomic {ok ok' : Addr → Prop} {h h' : Heap} {v : Value} {d : D} (r : Rep ok h v d) (a : Atomic d = true) : Rep ok' h' v d := by
  cases r <;> first | (cases a; done) | constructor
theorem Ev.int {i : Int} {k : Nat} {p : Pos} : Ev G n env σ (.Constant (.int i) k p) (.int i) := fun _ _ _ _ _ _ _ => wpAny_Constant_int ⟨.tok, .int _ _⟩
theorem Ev.str {x : Str} {k : Nat} {p : Pos} : Ev G n env σ (.Constant (.str x) k p) (.str x) := fun _ _ _ _ _ _ _ => Constant_str ⟨.tok, .str _ _⟩
theorem Ev.bool {b : Bool} {k : Nat} {p : Pos} : Ev G n env σ (.Constant (.bool b) k p) (.bool b) := fun _ _ _ _ _ _ _ => Constant_bool ⟨.refl, .bool _⟩
theorem Ev.none {k : Nat} {p : Pos} : Ev G n env σ (.Constant .none k p) .none := fun _ _ _ _ _ _ _ => Constant_none ⟨.refl, .none⟩
theorem wpAny_holds {A : Around} {E : Value → Shared → Prop} {s : Shared} {x : Str} {p : Pos} {v : Value} {Q : Value → Shared → Prop} {M : Model} (hk : env.scope.kind = .function) (q : Holds env s.heap x v) (h : Q v s)
    (hd : (x == ("__debug__" : Str)) = false) (hc : (x == ("__classdict__" : Str)) = false) : wpAny M A (eval (.Name x p) env) Q E s := by
  refine wpAny_Name ?_ hd
  rcases q with ⟨k, m, hn, hv⟩ | ⟨k | k, c, hl, hv⟩
  · exact wpAny_loadName_local hk k hn hv h
  · exact wpAny_loadName_cell hk k hl hv h
  · exact wpAny_loadName_free hk k hl hv h hc
theorem Ev.name {x : Str} {p : Pos} {d : D} (hl : σ.lookup x = some (.val d)) (hd : (x == ("__debug__" : Str)) = false := by decide) (hc : (x == ("__classdict__" : Str)) = false := by decide) :
    Ev G n env σ (.Name x p) d := fun _ _ _ _ _ _ i => by
  obtain ⟨v, q, r⟩ := i.vals x d hl
  exact wpAny_holds i.frame.kind q ⟨.refl, r⟩ hd hc
theorem EvB.own {x : Str} {p : Pos} {a : Addr} {ds : List D} (hl : σ.lookup x = some (.own a ds)) (hd : (x == ("__debug__" : Str)) = false := by decide) (hc : (x == ("__classdict__" : Str)) = false := by decide) :
    EvB G n env σ (.Name x p) (.list ds) := fun _ _ _ _ _ _ i => by
  obtain ⟨q, o, vs, l, r⟩ := i.owns x a ds hl
  exact wpAny_holds i.frame.kind q ⟨.refl, .list o l.list (r.weak fun _ q => q.1)⟩ hd hc
theorem Ev.global {x : Str} {p : Pos} {v : Value} {d : D} (hk : env.kindOf x = some .globalImplicit) (hv : G.mg x = some v) (hr : ∀ ok h, Rep ok h v d) (hd : (x == ("__debug__" : Str)) = false := by decide) :
    Ev G n env σ (.Name x p) d := fun _ _ _ _ _ k i =>
  Name_function_global i.frame.kind hk (loadGlobal_global (by rw [i.frame.glob]; exact G.g.keeps k) hv ⟨.refl, hr _ _⟩) hd
theorem Ev.builtin {x : Str} {p : Pos} {v : Value} (hk : env.kindOf x = some .globalImplicit) (hg : G.mg x = .none) (hv : bootBuiltins x = some v) (hn : x ≠ "__name__" := by decide) (hd : (x == ("__debug__" : Str)) = false := by decide) :
    Ev G n env σ (.Name x p) (.raw v) := fun _ _ _ _ _ k i =>
  Name_function_global i.frame.kind hk (loadGlobal_builtin (by rw [i.frame.glob]; exact G.g.keeps k) hg (by rw [i.frame.blt]; exact G.b.keeps k) ((G.bb x hn).trans hv) ⟨.refl, .raw _⟩) hd
theorem Ev.binop {a b : Expr} {op : Operator} {p : Pos} {da db d : D} (ha : Ev G n env σ a da) (hb : Ev G n env σ b db) (ho : BinD G n op da db d) : Ev G n env σ (.BinOp a op b p) d := fun ok A s E r k i =>
  wpAny_BinOp (wpAny_mono (ha ok A s E r k i) (fun va s₁ p₁ => wpAny_mono (hb ok A s₁ E r (p₁.1.ext.base k) (i.ext p₁.1.ext)) (fun vb s₂ p₂ =>
    have st := p₁.1.trans p₂.1
    wpAny_mono (ho _ A s₂ E va vb r (st.ext.base k) (i.ext st.ext).freshO (p₁.2.stp p₂.1) p₂.2) (fun _ _ p₃ => ⟨st.trans p₃.1, p₃.2⟩) fun _ _ x => x) fun _ _ x => x) fun _ _ x => x)
theorem Ev.cmp {a b : Expr} {op : CmpOp} {p : Pos} {da db : D} {c : Bool} (ha : EvB G n env σ a da) (hb : EvB G n env σ b db) (ho : CmpD G n op da db c) (hm : behindInMarks op b = false := by with_unfolding_all rfl) :
    Ev G n env σ (.Compare a [op] [b] p) (.bool c) := fun ok A s E r k i =>
  wpAny_Compare1 (wpAny_mono (ha ok A s E r k i) (fun va s₁ p₁ => wpAny_mono (hb ok A s₁ E r (p₁.1.ext.base k) (i.ext p₁.1.ext)) (fun vb s₂ p₂ =>
    have st := p₁.1.trans p₂.1
    wpAny_mono (ho _ A s₂ E va vb r (st.ext.base k) (i.ext st.ext).fresh (p₁.2.stp p₂.1) p₂.2) (fun _ _ p₃ => ⟨st.trans p₃.1, p₃.2 ▸ .bool _⟩) fun _ _ x => x) fun _ _ x => x) fun _ _ x => x) hm
theorem Tr.cmp {a b : Expr} {op : CmpOp} {p : Pos} {da db : D} {c : Bool} (ha : EvB G n env σ a da) (hb : EvB G n env σ b db) (ho : CmpD G n op da db c) (hm : behindInMarks op b = false := by with_unfolding_all rfl) :
    Tr G n env σ (.Compare a [op] [b] p) c := fun ok A s E r k i =>
  wpAny_isTrue_Compare1 (wpAny_mono (ha ok A s E r k i) (fun va s₁ p₁ => wpAny_mono (hb ok A s₁ E r (p₁.1.ext.base k) (i.ext p₁.1.ext)) (fun vb s₂ p₂ =>
    have st := p₁.1.trans p₂.1
    wpAny_mono (ho _ A s₂ E va vb r (st.ext.base k) (i.ext st.ext).fresh (p₁.2.stp p₂.1) p₂.2) (fun _ _ p₃ => by rw [p₃.2]; exact wpAny_truthy_bool ⟨st.trans p₃.1, rfl⟩) fun _ _ x => x) fun _ _ x => x) fun _ _ x => x) hm
theorem Tr.plain {e : Expr} {d : D} {c : Bool} (h : EvB G n env σ e d) (ht : TruD G n d c)
    (he : ∀ whole, isTrue e env whole = (do let v ← whole; standAt e.pos; holding [v] (truthy v)) := by intro _; rfl) : Tr G n env σ e c := fun ok A s E r k i =>
  isTrue_plain (wpAny_mono (h ok A s E r k i) (fun v s₁ p₁ => wpAny_mono (ht ok A s₁ E v r (p₁.1.ext.base k) (i.ext p₁.1.ext).fresh p₁.2) (fun _ _ p₂ => ⟨p₁.1.trans p₂.1, p₂.2⟩) fun _ _ x => x) fun _ _ x => x) (he _)
theorem Tr.not {e : Expr} {p : Pos} {c : Bool} (h : Tr G n env σ e c) : Tr G n env σ (.UnaryOp .Not e p) (!c) := fun ok A s E r k i =>
  isTrue_not (wpAny_mono (h ok A s E r k i) (fun _ _ p => ⟨p.1, by rw [p.2]⟩) fun _ _ x => x)
theorem Tr.and_nil {p : Pos} : Tr G n env σ (.BoolOp .And [] p) true := fun _ _ _ _ _ _ _ => isTrue_and_nil ⟨.refl, rfl⟩
theorem Tr.and {e : Expr} {es : List Expr} {p : Pos} {c c' : Bool} (h : Tr G n env σ e c) (h' : c = true → Tr G n env σ (.BoolOp .And es p) c') : Tr G n env σ (.BoolOp .And (e :: es) p) (c && c') := fun ok A s E r k i =>
  isTrue_and (wpAny_mono (h ok A s E r k i) (fun b s₁ p₁ => by
    obtain ⟨st, rfl⟩ := p₁
    cases b with
    | false => exact ⟨st, rfl⟩
    | true => exact wpAny_mono (h' rfl ok A s₁ E r (st.ext.base k) (i.ext st.ext)) (fun _ _ p₂ => ⟨st.trans p₂.1, by rw [p₂.2]; rfl⟩) fun _ _ x => x) fun _ _ x => x)
theorem Tr.cast {e : Expr} {c c' : Bool} (h : Tr G n env σ e c) (q : c = c') : Tr G n env σ e c' := q ▸ h
/-- a row of arguments or items -/
def EvL (G : Gr) (n : Nat) (env : Env) (σ : St) (es : List Expr) (ds : List D) : Prop := ∀ ok A s E p, Room n A → G.base.StaysIn s.heap → Inv G.base ok env σ s.heap →
  wpAny G.M A (spliced (backTo p (starEach es env))) (fun vs s' => Stp G.base s s' ∧ RepAll (okO ok σ) s'.heap vs ds) E s
def EvLB (G : Gr) (n : Nat) (env : Env) (σ : St) (es : List Expr) (ds : List D) : Prop := ∀ ok A s E p, Room n A → G.base.StaysIn s.heap → Inv G.base ok env σ s.heap →
  wpAny G.M A (spliced (backTo p (starEach es env))) (fun vs s' => Stp G.base s s' ∧ RepAll ok s'.heap vs ds) E s
def noStar : List Expr → Bool
  | [] => true
  | .Starred .. :: _ => false
  | _ :: r => noStar r
theorem EvL.nil : EvL G n env σ [] [] := fun _ _ _ _ _ _ _ _ => args_nil ⟨.refl, .nil⟩
theorem EvL.cons {e : Expr} {es : List Expr} {d : D} {ds : List D} (h : Ev G n env σ e d) (hs : EvL G n env σ es ds) (he : starEach (e :: es) env = (false, eval e env) :: starEach es env := by rfl) : EvL G n env σ (e :: es) (d :: ds) := fun ok A s E p r k i =>
  args_cons (wpAny_mono (h ok A s E r k i) (fun v s₁ p₁ => wpAny_mono (hs ok A s₁ E p r (p₁.1.ext.base k) (i.ext p₁.1.ext)) (fun vs s₂ p₂ => ⟨p₁.1.trans p₂.1, .cons (p₁.2.stp p₂.1) p₂.2⟩) fun _ _ x => x) fun _ _ x => x) he
theorem EvLB.nil : EvLB G n env σ [] [] := fun _ _ _ _ _ _ _ _ => args_nil ⟨.refl, .nil⟩
theorem EvLB.cons {e : Expr} {es : List Expr} {d : D} {ds : List D} (h : EvB G n env σ e d) (hs : EvLB G n env σ es ds) (he : starEach (e :: es) env = (false, eval e env) :: starEach es env := by rfl) : EvLB G n env σ (e :: es) (d :: ds) := fun ok A s E p r k i =>
  args_cons (wpAny_mono (h ok A s E r k i) (fun v s₁ p₁ => wpAny_mono (hs ok A s₁ E p r (p₁.1.ext.base k) (i.ext p₁.1.ext)) (fun vs s₂ p₂ => ⟨p₁.1.trans p₂.1, .cons (p₁.2.stp p₂.1) p₂.2⟩) fun _ _ x => x) fun _ _ x => x) he
/-- what may stand at a call's head -/
inductive Callee (G : Gr) : Value → Prop
  | builtin (id : String) : Callee G (.builtin id)
  | type (T : String) : Callee G (.type T)
  | fn {a : Addr} {o : Obj} {fd : FuncData} : G.base.get? a = some o → o.data = .func fd → Callee G (.ref a)
theorem callWith_callee {M : Model} {A : Around} {E : Value → Shared → Prop} {s : Shared} {pos : Pos} {f : Value} {first : List Value} {es : List Expr} {Q : Value → Shared → Prop} (c : Callee G f)
    (hplain : (backTo pos (starEach es env)).any (·.1) = false)
    (h : wpAny M A (spliced (backTo pos (starEach es env))) (fun vs s₁ => G.base.StaysIn s₁.heap ∧ wpAny M A (call f (first ++ vs)) Q E s₁) E s) (hns : noStar es = true) :
    wpAny M A (callWith pos f first (backTo pos (starEach es env)) []) Q E s := by
  have hargs : ∀ {Q' : Args → Shared → Prop}, wpAny M A (spliced (backTo pos (starEach es env))) (fun vs s₁ => Q' ⟨vs, []⟩ s₁) E s → wpAny M A (evalArgs f true (backTo pos (starEach es env)) []) Q' E s := by
    intro Q' hq
    cases es with
    | nil =>
      have e1 : evalArgs f true (backTo pos (starEach [] env)) [] = (pure ⟨[], []⟩ : Sem Args) := rfl
      rw [e1]
      exact fun Γ p hΓ => hq Γ p hΓ
    | cons e r =>
      have he : starEach (e :: r) env = (false, eval e env) :: starEach r env := by
        cases e <;> first | rfl | cases hns
      rw [he] at hq ⊢
      exact evalArgs_plain hq
  cases c with
  | builtin id => exact callWith_builtin hplain (hargs (wpAny_mono h (fun vs s₁ p => p.2) fun _ _ x => x))
  | type T => exact PyProof.Rows.callWith_type hplain (hargs (wpAny_mono h (fun vs s₁ p => p.2) fun _ _ x => x))
  | fn ho hd => exact callWith_function (hargs (wpAny_mono h (fun vs s₁ p => ⟨⟨p.1 _ _ ho, hd⟩, p.2⟩) fun _ _ x => x))
theorem Ev.call {x : Str} {p pos : Pos} {es : List Expr} {f : Value} {ds : List D} {d : D} (hf : Ev G n env σ (.Name x p) (.raw f)) (c : Callee G f) (ha : EvL G n env σ es ds) (hc : CallD G n f ds d)
    (hns : noStar es = true := by rfl) (hplain : (backTo pos (starEach es env)).any (·.1) = false := by rfl) : Ev G n env σ (.Call (.Name x p) es [] pos) d := fun ok A s E r k i =>
  Call_ (wpAny_mono (hf ok A s E r k i) (fun v s₁ p₁ => by
    obtain ⟨st, rp⟩ := p₁
    cases rp
    refine callWith_callee c hplain (wpAny_mono (ha ok A s₁ E pos r (st.ext.base k) (i.ext st.ext)) (fun vs s₂ p₂ => ⟨p₂.1.ext.base (st.ext.base k), ?_⟩) fun _ _ x => x) hns
    have st' := st.trans p₂.1
    exact wpAny_mono (hc _ A s₂ E vs r (st'.ext.base k) (i.ext st'.ext).freshO p₂.2) (fun _ _ p₃ => ⟨st'.trans p₃.1, p₃.2⟩) fun _ _ x => x) fun _ _ x => x)
theorem Ev.sub {o i : Expr} {p : Pos} {do_ di d : D} {T id : String} (ho : Ev G n env σ o do_) (hi : Ev G n env σ i di) (hx : IdxD G n do_ di d)
    (hT : ∀ ok (s : Shared) v, Rep ok s.heap v do_ → s.TypeIs v T) (hl : typeLookup (.type T) "__getitem__" = pure (some (.builtin id)))
    (hs : ∀ a b, ∃ ops, subscripted i false a b = operate ops (getItem a b) := by intro a b; first | exact ⟨[a, b], rfl⟩ | exact ⟨[b, a], rfl⟩) : Ev G n env σ (.Subscript o i p) d := fun ok A s E r k iv =>
  Subscript_ (wpAny_mono (ho ok A s E r k iv) (fun vo s₁ p₁ => wpAny_mono (hi ok A s₁ E r (p₁.1.ext.base k) (iv.ext p₁.1.ext)) (fun vi s₂ p₂ => by
    have st := p₁.1.trans p₂.1
    obtain ⟨ops, hs⟩ := hs vo vi
    exact tail_any (hT _ _ _ (p₁.2.stp p₂.1)) hl (wpAny_mono (hx _ A s₂ E vo vi r (st.ext.base k) (iv.ext st.ext).freshO (p₁.2.stp p₂.1) p₂.2) (fun _ _ p₃ => ⟨st.trans p₃.1, p₃.2⟩) fun _ _ x => x) hs) fun _ _ x => x) fun _ _ x => x)
theorem fresh_get {h : Heap} : h.get? h.objs.size = .none := by
  cases q : h.get? h.objs.size with
  | none => rfl
  | some o => exact absurd (Heap.lt_size q) (Nat.lt_irrefl _)
theorem Ev.list {es : List Expr} {p : Pos} {ds : List D} (h : EvL G n env σ es ds) (hz : ds.length ≤ sizeLine) : Ev G n env σ (.List es p) (.list ds) := fun ok A s E r k i =>
  List_ (wpAny_mono (h ok A s E p r k i) (fun vs s₁ p₁ => by
    refine wpAny_newObj_type ?_ (by show vs.toArray.size ≤ sizeLine; rw [List.size_toArray, p₁.2.length]; exact hz)
    have st : Stp G.base s₁ { s₁ with heap := s₁.heap.push { cls := .type "list", data := .seq vs.toArray } } := .push
    exact ⟨p₁.1.trans st, .list ((i.ext p₁.1.ext).freshO _ fresh_get) ⟨_, Heap.get?_push_size _ rfl, rfl, _, rfl⟩ (p₁.2.stp st)⟩) fun _ _ x => x)
theorem Ev.tuple {es : List Expr} {p : Pos} {k : Nat} {ds : List D} (h : EvL G n env σ es ds) (hz : ds.length ≤ sizeLine) : Ev G n env σ (.Tuple es k p) (.tuple ds) := fun ok A s E r k i =>
  Tuple_ (wpAny_mono (h ok A s E p r k i) (fun vs s₁ p₁ => by
    refine wpAny_newObj_type ?_ (by show vs.toArray.size ≤ sizeLine; rw [List.size_toArray, p₁.2.length]; exact hz)
    have st : Stp G.base s₁ { s₁ with heap := s₁.heap.push { cls := .type "tuple", data := .seq vs.toArray } } := .push
    exact ⟨p₁.1.trans st, .tuple ((i.ext p₁.1.ext).freshO _ fresh_get) ⟨_, Heap.get?_push_size _ rfl, rfl, _, rfl⟩ (p₁.2.stp st)⟩) fun _ _ x => x)
/-- a part of a slice -/
def EvO (G : Gr) (n : Nat) (env : Env) (σ : St) (e : Option Expr) (d : D) : Prop := ∀ ok A s E, Room n A → G.base.StaysIn s.heap → Inv G.base ok env σ s.heap →
  wpAny G.M A (evalPart e env) (fun v s' => Stp G.base s s' ∧ Rep (okO ok σ) s'.heap v d) E s
theorem EvO.none : EvO G n env σ .none .none := fun _ _ _ _ _ _ _ => wpAny_pure ⟨.refl, .none⟩
theorem EvO.some {e : Expr} {d : D} (h : Ev G n env σ e d) : EvO G n env σ (.some e) d := h
theorem Ev.slice {l u st : Option Expr} {p : Pos} {dl du ds : D} (hl : EvO G n env σ l dl) (hu : EvO G n env σ u du) (hs : EvO G n env σ st ds) : Ev G n env σ (.Slice l u st p) (.slice dl du ds) := fun ok A s E r k i =>
  wpAny_Slice (wpAny_mono (hl ok A s E r k i) (fun v1 s₁ p₁ => wpAny_mono (hu ok A s₁ E r (p₁.1.ext.base k) (i.ext p₁.1.ext)) (fun v2 s₂ p₂ => by
    have st := p₁.1.trans p₂.1
    refine wpAny_mono (hs ok A s₂ E r (st.ext.base k) (i.ext st.ext)) (fun v3 s₃ p₃ => ?_) fun _ _ x => x
    have st' := st.trans p₃.1
    have sp : Stp G.base s₃ { s₃ with heap := s₃.heap.push { cls := .type "slice", data := .fields #[v1, v2, v3] } } := .push
    exact ⟨st'.trans sp, .slice ((i.ext st'.ext).freshO _ fresh_get) (Heap.get?_push_size _ rfl) rfl rfl (((p₁.2.stp p₂.1).stp p₃.1).stp sp) ((p₂.2.stp p₃.1).stp sp) (p₃.2.stp sp)⟩) fun _ _ x => x) fun _ _ x => x)
end
end Mine
end
section
open PySem PySem.W PyProof.Rows PySem.Calls
set_option maxRecDepth 100000
namespace Mine
theorem lookup_setS_self {x : Str} {s : Slot} : ∀ σ : St, (setS x s σ).lookup x = some s
  | [] => by simp [setS]
  | (y, t) :: r => by
    unfold setS
    by_cases e : x = y
    · rw [if_pos e]; simp
    · rw [if_neg e, List.lookup_cons, beq_eq_false_iff_ne.mpr e]; exact lookup_setS_self r
theorem lookup_setS_ne {x y : Str} {s : Slot} (n : y ≠ x) : ∀ σ : St, (setS x s σ).lookup y = σ.lookup y
  | [] => by simp [setS, n]
  | (z, t) :: r => by
    unfold setS
    by_cases e : x = z
    · subst e; rw [if_pos rfl, List.lookup_cons, List.lookup_cons, beq_eq_false_iff_ne.mpr n]
    · rw [if_neg e, List.lookup_cons, List.lookup_cons]
      cases y == z <;> simp [lookup_setS_ne n r]
theorem owned_of_lookup {x : Str} {a : Addr} {ds : List D} : ∀ {σ : St}, σ.lookup x = some (.own a ds) → a ∈ owned σ
  | (y, t) :: r, h => by
    rw [List.lookup_cons] at h
    cases e : x == y with
    | true => rw [e] at h; cases h; exact List.mem_cons_self
    | false =>
      rw [e] at h
      have := owned_of_lookup h
      cases t with
      | val d => exact this
      | own b es => exact List.mem_cons_of_mem _ this
def slotAddr : Slot → List Addr
  | .val _ => []
  | .own a _ => [a]
theorem owned_cons (x : Str) (s : Slot) (r : St) : owned ((x, s) :: r) = slotAddr s ++ owned r := by cases s <;> rfl
/-- what setS does to the owned ones -/
theorem owned_setS (x : Str) (s : Slot) : ∀ σ : St, ∃ l₁ l₂ l₃, owned σ = l₁ ++ l₂ ++ l₃ ∧ owned (setS x s σ) = l₁ ++ slotAddr s ++ l₃ ∧ (∀ t, σ.lookup x = some t → l₂ = slotAddr t)
  | [] => ⟨[], [], [], rfl, by cases s <;> rfl, fun t h => by cases h⟩
  | (y, t) :: r => by
    unfold setS
    by_cases e : x = y
    · subst e
      rw [if_pos rfl, owned_cons, owned_cons]
      exact ⟨[], slotAddr t, owned r, by simp, by simp, fun t' h => by simp at h; rw [h]⟩
    · rw [if_neg e, owned_cons, owned_cons]
      obtain ⟨l₁, l₂, l₃, h1, h2, h3⟩ := owned_setS x s r
      refine ⟨slotAddr t ++ l₁, l₂, l₃, by rw [h1]; simp, by rw [h2]; simp, fun t' h => h3 t' ?_⟩
      rw [List.lookup_cons, beq_eq_false_iff_ne.mpr e] at h; exact h
theorem owned_setS_sub {x : Str} {s : Slot} {σ : St} {a : Addr} (h : a ∈ owned (setS x s σ)) : a ∈ owned σ ∨ a ∈ slotAddr s := by
  obtain ⟨l₁, l₂, l₃, h1, h2, _⟩ := owned_setS x s σ
  rw [h2] at h; rw [h1]
  simp only [List.mem_append] at h ⊢
  rcases h with (h | h) | h <;> simp [h]
theorem owned_setS_val {x : Str} {d : D} {σ : St} {a : Addr} (h : a ∈ owned (setS x (.val d) σ)) : a ∈ owned σ := (owned_setS_sub h).elim id fun h => nomatch h
theorem nodup_setS_val {x : Str} {d : D} {σ : St} (h : (owned σ).Nodup) : (owned (setS x (.val d) σ)).Nodup := by
  obtain ⟨l₁, l₂, l₃, h1, h2, _⟩ := owned_setS x (.val d) σ
  rw [h1] at h; rw [h2]
  exact h.sublist (by simp [slotAddr, List.append_assoc])
theorem nodup_setS_own {x : Str} {a : Addr} {ds : List D} {σ : St} (h : (owned σ).Nodup) (n : a ∉ owned σ ∨ ∃ es, σ.lookup x = some (.own a es)) : (owned (setS x (.own a ds) σ)).Nodup := by
  obtain ⟨l₁, l₂, l₃, h1, h2, h3⟩ := owned_setS x (.own a ds) σ
  rw [h2]
  rcases n with n | ⟨es, n⟩
  · rw [h1] at h n
    simp only [slotAddr]
    have h' : (l₁ ++ l₃).Nodup := h.sublist (by simp [List.append_assoc])
    simp only [List.mem_append, not_or] at n
    rw [List.append_assoc]
    rw [List.nodup_append] at h' ⊢
    refine ⟨h'.1, ?_, ?_⟩
    · rw [List.singleton_append, List.nodup_cons]; exact ⟨n.2, h'.2.1⟩
    · intro p hp q hq e
      rw [List.singleton_append, List.mem_cons] at hq
      rcases hq with rfl | hq
      · exact n.1.1 (e ▸ hp)
      · exact h'.2.2 p hp q hq e
  · rw [h1, h3 _ n] at h; exact h
/-- the address goes out of the owned ones -/
theorem notMem_setS_val {x : Str} {a : Addr} {ds : List D} {d : D} {σ : St} (h : (owned σ).Nodup) (l : σ.lookup x = some (.own a ds)) : a ∉ owned (setS x (.val d) σ) := by
  obtain ⟨l₁, l₂, l₃, h1, h2, h3⟩ := owned_setS x (.val d) σ
  rw [h2]; rw [h1, h3 _ l] at h
  simp only [slotAddr, List.append_assoc, List.append_nil] at h ⊢
  intro m
  rw [List.nodup_append] at h
  rcases List.mem_append.mp m with m | m
  · exact h.2.2 a m a (by simp) rfl
  · have := h.2.1; simp at this; exact this.1 m
theorem node_not_frame {env : Env} {h : Heap} {a : Addr} (F : Frame env h) (n : IsNode h a) : ¬ FrW env a := by
  rintro (e | ⟨x, l⟩)
  · obtain ⟨m, o, es, ep, q, d, _⟩ := F.ns
    rw [← e] at q
    cases n with
    | list l => obtain ⟨o', q', _, k, d'⟩ := l; rw [q] at q'; cases q'; rw [d] at d'; cases d'
    | tup l => obtain ⟨o', q', _, k, d'⟩ := l; rw [q] at q'; cases q'; rw [d] at d'; cases d'
    | slice q' _ d' => rw [q] at q'; cases q'; rw [d] at d'; cases d'
    | rng q' => unfold IsRange at q'; rw [q] at q'; cases q'; cases d
  · obtain ⟨v, o, q, d⟩ := F.cells x a l
    cases n with
    | list l => obtain ⟨o', q', _, k, d'⟩ := l; rw [q] at q'; cases q'; rw [d] at d'; cases d'
    | tup l => obtain ⟨o', q', _, k, d'⟩ := l; rw [q] at q'; cases q'; rw [d] at d'; cases d'
    | slice q' _ d' => rw [q] at q'; cases q'; rw [d] at d'; cases d'
    | rng q' => unfold IsRange at q'; rw [q] at q'; cases q'; cases d
end Mine
end
section
open PySem PySem.W PyProof.Rows PySem.Calls
set_option maxRecDepth 100000
namespace Mine
inductive Fl where
  | next | brk | cont
  | ret (d : D)
def FlowIs (ok : Addr → Prop) (h : Heap) : Flow → Fl → Prop
  | .next, .next => True
  | .brk, .brk => True
  | .cont, .cont => True
  | .ret v, .ret d => Rep ok h v d
  | _, _ => False
structure Mv (base : Heap) (W : Addr → Prop) (s s' : Shared) : Prop where
  ext : ExtBut base W s.heap s'.heap
  dom : ∀ b, s'.heap.get? b = none → s.heap.get? b = none
  os : s'.os = s.os
  gens : GensKeep s.gens s'.gens
theorem Stp.mv {base : Heap} {W : Addr → Prop} {s s' : Shared} (x : Stp base s s') : Mv base W s s' := ⟨fun b o _ e => x.ext b o e, fun b e => x.ext.none e, x.os, x.gens⟩
theorem Mv.stp {base : Heap} {W : Addr → Prop} {s s' : Shared} (x : Mv base W s s') (h : ∀ b, W b → s.heap.get? b = none) : Stp base s s' := ⟨fun b o e => x.ext b o (fun q => by rw [h b q] at e; cases e) e, x.os, x.gens⟩
theorem Mv.trans {base : Heap} {W W' : Addr → Prop} {a b c : Shared} (x : Mv base W a b) (y : Mv base W' b c) (h : ∀ p, W' p → W p ∨ a.heap.get? p = none) : Mv base W a c := by
  refine ⟨fun p o n e => ?_, fun p e => x.dom p (y.dom p e), y.os.trans x.os, x.gens.trans y.gens⟩
  obtain ⟨o', e', c', d', k'⟩ := x.ext p o n e
  obtain ⟨o'', e'', c'', d'', k''⟩ := y.ext p o' (fun q => (h p q).elim n fun z => by rw [z] at e; cases e) e'
  refine ⟨o'', e'', c''.trans c', d''.trans d', fun q => ?_⟩
  have := k' q; subst this
  exact k'' q
theorem Mv.base {base : Heap} {W : Addr → Prop} {s s' : Shared} (x : Mv base W s s') (k : base.StaysIn s.heap) (h : ∀ a, W a → base.get? a = none) : base.StaysIn s'.heap := by
  intro b o e
  obtain ⟨o', e', _, _, k'⟩ := x.ext b o (fun q => by rw [h b q] at e; cases e) (k b o e)
  rw [e', k' (.inl (by rw [e]; rfl))]
section
variable {G : Gr} {n : Nat} {env : Env} {σ : St}
def After (G : Gr) (env : Env) (σ : St) (ok : Addr → Prop) (s : Shared) (Q : Fl → St → Prop) (f : Flow) (s' : Shared) : Prop :=
  ∃ fl σ', Q fl σ' ∧ FlowIs ok s'.heap f fl ∧ Inv G.base ok env σ' s'.heap ∧ Mv G.base (Wr env σ) s s' ∧ G.base.StaysIn s'.heap ∧ ∀ a ∈ owned σ', a ∈ owned σ ∨ s.heap.get? a = none
def Ex (G : Gr) (n : Nat) (env : Env) (σ : St) (body : List Stmt) (Q : Fl → St → Prop) : Prop := ∀ ok A s E, Room n A → G.base.StaysIn s.heap → Inv G.base ok env σ s.heap →
  wpAny G.M A (execs body env) (After G env σ ok s Q) E s
def Ex1 (G : Gr) (n : Nat) (env : Env) (σ : St) (st : Stmt) (Q : Fl → St → Prop) : Prop := ∀ ok A s E, Room n A → G.base.StaysIn s.heap → Inv G.base ok env σ s.heap →
  wpAny G.M A (exec st env) (After G env σ ok s Q) E s
theorem After.trans {ok : Addr → Prop} {σ₁ : St} {s s₁ s₂ : Shared} {Q : Fl → St → Prop} {f : Flow} (m : Mv G.base (Wr env σ) s s₁) (o : ∀ a ∈ owned σ₁, a ∈ owned σ ∨ s.heap.get? a = none) (a : After G env σ₁ ok s₁ Q f s₂)
    (z : ∀ b, s₁.heap.get? b = none → s.heap.get? b = none) : After G env σ ok s Q f s₂ := by
  obtain ⟨fl, σ', q, fi, i, m', k, o'⟩ := a
  refine ⟨fl, σ', q, fi, i, m.trans m' ?_, k, fun b hb => ?_⟩
  · rintro p (h | h)
    · exact .inl (.inl h)
    · exact (o p h).imp .inr id
  · rcases o' b hb with h | h
    · exact o b h
    · exact .inr (z b h)
theorem After.mono {ok : Addr → Prop} {s s' : Shared} {Q Q' : Fl → St → Prop} {f : Flow} (a : After G env σ ok s Q f s') (h : ∀ fl σ', Q fl σ' → Q' fl σ') : After G env σ ok s Q' f s' := by
  obtain ⟨fl, σ', q, r⟩ := a
  exact ⟨fl, σ', h _ _ q, r⟩
theorem Ex.mono {body : List Stmt} {Q Q' : Fl → St → Prop} (a : Ex G n env σ body Q) (h : ∀ fl σ', Q fl σ' → Q' fl σ') : Ex G n env σ body Q' := fun ok A s E r k i => wpAny_mono (a ok A s E r k i) (fun _ _ p => p.mono h) fun _ _ x => x
theorem Ex1.mono {st : Stmt} {Q Q' : Fl → St → Prop} (a : Ex1 G n env σ st Q) (h : ∀ fl σ', Q fl σ' → Q' fl σ') : Ex1 G n env σ st Q' := fun ok A s E r k i => wpAny_mono (a ok A s E r k i) (fun _ _ p => p.mono h) fun _ _ x => x
theorem Ex.nil {Q : Fl → St → Prop} (h : Q .next σ) : Ex G n env σ [] Q := fun ok A s E r k i => wpAny_execs_nil ⟨.next, σ, h, trivial, i, Stp.refl.mv, k, fun _ h => .inl h⟩
theorem Ex.cons {st : Stmt} {rest : List Stmt} {Q : Fl → St → Prop} (h : Ex1 G n env σ st fun fl σ' => match fl with | .next => Ex G n env σ' rest Q | fl => Q fl σ') : Ex G n env σ (st :: rest) Q := fun ok A s E r k i =>
  wpAny_execs_cons (wpAny_mono (h ok A s E r k i) (fun f s' a => by
    obtain ⟨fl, σ', q, fi, i', m, k', o⟩ := a
    cases f <;> cases fl <;> first | exact fi.elim | skip
    · exact wpAny_mono (q ok A s' E r k' i') (fun _ _ a => a.trans m o m.dom) fun _ _ x => x
    · exact ⟨.brk, σ', q, trivial, i', m, k', o⟩
    · exact ⟨.cont, σ', q, trivial, i', m, k', o⟩
    · exact ⟨.ret _, σ', q, fi, i', m, k', o⟩) fun _ _ x => x)
/-- a statement that only steps on to a state -/
theorem Ex.step {st : Stmt} {rest : List Stmt} {Q : Fl → St → Prop} {P : St → Prop} (h : Ex1 G n env σ st fun fl σ' => fl = .next ∧ P σ') (hr : ∀ σ', P σ' → Ex G n env σ' rest Q) : Ex G n env σ (st :: rest) Q :=
  .cons (h.mono fun fl σ' p => by obtain ⟨rfl, p⟩ := p; exact hr σ' p)
theorem Ex.one {st : Stmt} {rest : List Stmt} {Q : Fl → St → Prop} {σ' : St} (h : Ex1 G n env σ st fun fl σ'' => fl = .next ∧ σ'' = σ') (hr : Ex G n env σ' rest Q) : Ex G n env σ (st :: rest) Q :=
  .step h fun _ e => e ▸ hr
/-- a name of the frame that may be stored -/
def Storable (env : Env) (x : Str) : Prop := env.kindOf x = some .local ∨ (env.kindOf x = some .cell ∧ (env.cells.lookup x).isSome = true)
theorem cells_inj {cs : List (Str × Addr)} (hp : cs.Pairwise fun x y => x.2 ≠ y.2) {x y : Str} {c : Addr} (hx : cs.lookup x = some c) (hy : cs.lookup y = some c) : x = y :=
  name_of_addr hp (mem_of_lookup hx) (mem_of_lookup hy)
theorem wpAny_store {M : Model} {A : Around} {E : Value → Shared → Prop} {s : Shared} {base : Heap} {x : Str} {v : Value} {Q : Unit → Shared → Prop} (F : Frame env s.heap) (hx : Storable env x)
    (h : ∀ s', Holds env s'.heap x v → (∀ y u, y ≠ x → Holds env s.heap y u → Holds env s'.heap y u) → Frame env s'.heap → Mv base (FrW env) s s' → Q () s') : wpAny M A (storeName env x v) Q E s := by
  rcases hx with hk | ⟨hk, hc⟩
  · obtain ⟨m, hn⟩ := F.ns
    refine wpAny_storeName_local hk hn (fun h' hn' hs' => ?_) (by rw [F.kind]; rfl)
    have hL : ∃ o, h'.get? env.locals = some o := let ⟨o, _, _, q, _⟩ := hn'; ⟨o, q⟩
    have keep : ∀ b, b ≠ env.locals → h'.get? b = s.heap.get? b := fun b hb => hs'.2 b hb
    refine h _ (.inl ⟨hk, _, hn', by simp⟩) (fun y u hy q => ?_) ⟨F.kind, ⟨_, hn'⟩, fun z c l => ?_, F.apart, F.away, F.glob, F.blt⟩ ⟨fun b o w e => ⟨o, (keep b fun q => w (.inl q)).trans e, rfl, rfl, fun _ => rfl⟩, fun b e => ?_, rfl, .refl⟩
    · rcases q with ⟨k, m', n', r⟩ | ⟨k, c, l, r⟩
      · refine .inl ⟨k, _, hn', ?_⟩
        have : m' y = m y := by
          obtain ⟨o, es, ep, q1, q2, _, q3⟩ := n'
          obtain ⟨o₂, es₂, ep₂, p1, p2, _, p3⟩ := hn
          rw [q1] at p1; cases p1; rw [q2] at p2; cases p2
          rw [← q3, ← p3]
        simp [hy, ← this, r]
      · exact .inr ⟨k, c, l, r.sameBut hs' (F.away y c l)⟩
    · obtain ⟨u, q⟩ := F.cells z c l
      exact ⟨u, q.sameBut hs' (F.away z c l)⟩
    · by_cases hb : b = env.locals
      · obtain ⟨o, q⟩ := hL
        have e' : h'.get? b = none := e
        rw [hb, q] at e'; cases e'
      · rw [← keep b hb]; exact e
  · obtain ⟨c, hc⟩ := Option.isSome_iff_exists.mp hc
    obtain ⟨u₀, hcell⟩ := F.cells x c hc
    refine wpAny_storeName_cell F.kind hk hc hcell fun h' hc' hs' => ?_
    have keep : ∀ b, b ≠ c → h'.get? b = s.heap.get? b := fun b hb => hs'.2 b hb
    obtain ⟨m, hn⟩ := F.ns
    refine h _ (.inr ⟨.inl hk, c, hc, hc'⟩) (fun y u hy q => ?_) ⟨F.kind, ⟨m, hn.sameBut hs' (Ne.symm (F.away x c hc))⟩, fun z c' l => ?_, F.apart, F.away, F.glob, F.blt⟩ ⟨fun b o w e => ⟨o, (keep b fun q => w (.inr ⟨x, q ▸ hc⟩)).trans e, rfl, rfl, fun _ => rfl⟩, fun b e => ?_, rfl, .refl⟩
    · rcases q with ⟨k, m', n', r⟩ | ⟨k, c', l, r⟩
      · exact .inl ⟨k, m', n'.sameBut hs' (Ne.symm (F.away x c hc)), r⟩
      · exact .inr ⟨k, c', l, r.sameBut hs' fun q => hy (cells_inj F.apart l (q ▸ hc))⟩
    · by_cases hz : c' = c
      · subst hz; exact ⟨_, hc'⟩
      · obtain ⟨u, q⟩ := F.cells z c' l
        exact ⟨u, q.sameBut hs' hz⟩
    · by_cases hb : b = c
      · obtain ⟨o, q, _⟩ := hc'
        have e' : h'.get? b = none := e
        rw [hb, q] at e'; cases e'
      · rw [← keep b hb]; exact e
end
end Mine
end
section
open PySem PySem.W PyProof.Rows PySem.Calls
set_option maxRecDepth 100000
namespace Mine
section
variable {G : Gr} {n : Nat} {env : Env} {σ : St}
theorem Inv.set_val {base : Heap} {ok : Addr → Prop} {s s' : Shared} {x : Str} {v : Value} {d : D} (i : Inv base ok env σ s.heap) (m : Mv base (FrW env) s s') (F : Frame env s'.heap) (hx : Holds env s'.heap x v)
    (ho : ∀ y u, y ≠ x → Holds env s.heap y u → Holds env s'.heap y u) (r : Rep (okO ok σ) s.heap v d) : Inv base ok env (setS x (.val d) σ) s'.heap := by
  have nf : ∀ {P : Addr → Prop} a, P a → IsNode s.heap a → ¬ FrW env a := fun a _ q => node_not_frame i.frame q
  have up : ∀ a, okO ok σ a → okO ok (setS x (.val d) σ) a := fun a q => ⟨q.1, fun z => q.2 (owned_setS_val z)⟩
  refine ⟨F, fun a w => i.off a (w.imp id fun z => owned_setS_val z), fun b e => i.fresh b (m.dom b e), fun y e l => ?_, fun y a ds l => ?_, fun a h => ?_, nodup_setS_val i.once⟩
  · by_cases hy : y = x
    · subst hy
      rw [lookup_setS_self] at l; cases l
      exact ⟨v, hx, r.extBut m.ext nf fun a q _ => up a q⟩
    · rw [lookup_setS_ne hy] at l
      obtain ⟨u, p, q⟩ := i.vals y e l
      exact ⟨u, ho y u hy p, q.extBut m.ext nf fun a q _ => up a q⟩
  · by_cases hy : y = x
    · subst hy; rw [lookup_setS_self] at l; cases l
    · rw [lookup_setS_ne hy] at l
      obtain ⟨p, q, vs, lst, rs⟩ := i.owns y a ds l
      exact ⟨ho y _ hy p, q, vs, m.ext.own (node_not_frame i.frame (.list lst.list)) lst, rs.extBut m.ext nf fun a q _ => up a q⟩
  · obtain ⟨vs, lst⟩ := i.there a (owned_setS_val h)
    exact ⟨vs, m.ext.own (node_not_frame i.frame (.list lst.list)) lst⟩
theorem Mv.weak {base : Heap} {W W' : Addr → Prop} {s s' : Shared} (x : Mv base W s s') (h : ∀ a, W a → W' a) : Mv base W' s s' := ⟨fun b o n e => x.ext b o (fun q => n (h b q)) e, x.dom, x.os, x.gens⟩
/-- x = e -/
theorem Ex1.assign {x : Str} {e : Expr} {p pos : Pos} {d : D} (h : Ev G n env σ e d) (hx : Storable env x) (hs : swapsWith e (some (.Name x p)) pos.line env = pure false := by rfl) :
    Ex1 G n env σ (.Assign [.Name x p] e pos) fun fl σ' => fl = .next ∧ σ' = setS x (.val d) σ := fun ok A s E r k i =>
  wpAny_Assign_Name (wpAny_mono (h ok A s E r k i) (fun v s₁ p₁ => by
    have i₁ := i.ext p₁.1.ext
    refine wpAny_store (base := G.base) i₁.frame hx fun s₂ hv ho F m => ?_
    have m' : Mv G.base (Wr env σ) s s₂ := (p₁.1.mv (W := Wr env σ)).trans (m.weak fun _ w => Or.inl w) fun _ w => .inl w
    exact ⟨.next, _, ⟨rfl, rfl⟩, trivial, i₁.set_val m F hv ho p₁.2, m', m'.base k i.off, fun a w => .inl (owned_setS_val w)⟩) fun _ _ x => x) hs
/-- an expression that makes a list -/
def EvF (G : Gr) (n : Nat) (env : Env) (σ : St) (e : Expr) (ds : List D) : Prop := ∀ ok A s E, Room n A → G.base.StaysIn s.heap → Inv G.base ok env σ s.heap →
  wpAny G.M A (eval e env) (fun v s' => Stp G.base s s' ∧ ∃ a vs, v = .ref a ∧ s.heap.get? a = none ∧ OwnL s'.heap a vs ∧ RepAll (fun b => okO ok σ b ∧ b ≠ a) s'.heap vs ds) E s
theorem EvF.ev {e : Expr} {ds : List D} (h : EvF G n env σ e ds) : Ev G n env σ e (.list ds) := fun ok A s E r k i =>
  wpAny_mono (h ok A s E r k i) (fun v s' p => by
    obtain ⟨st, a, vs, rfl, f, l, rs⟩ := p
    exact ⟨st, .list (i.freshO a f) l.list (rs.weak fun _ q => q.1)⟩) fun _ _ x => x
theorem EvF.list {es : List Expr} {p : Pos} {ds : List D} (h : EvL G n env σ es ds) (hz : ds.length ≤ sizeLine) : EvF G n env σ (.List es p) ds := fun ok A s E r k i =>
  List_ (wpAny_mono (h ok A s E p r k i) (fun vs s₁ p₁ => by
    refine wpAny_newObj_type ?_ (by show vs.toArray.size ≤ sizeLine; rw [List.size_toArray, p₁.2.length]; exact hz)
    have st : Stp G.base s₁ { s₁ with heap := s₁.heap.push { cls := .type "list", data := .seq vs.toArray } } := .push
    refine ⟨p₁.1.trans st, _, vs, rfl, p₁.1.ext.none fresh_get, ⟨_, Heap.get?_push_size _ rfl⟩, p₁.2.ext st.ext fun b q z => ⟨q, fun e => ?_⟩⟩
    rw [e, fresh_get] at z; cases z) fun _ _ x => x)
/-- a new list is stored, x from now on the frame's own to fill -/
theorem After.own {x : Str} {a : Addr} {vs : List Value} {ds : List D} {ok : Addr → Prop} {s s₁ s₂ : Shared} (k : G.base.StaysIn s.heap) (i : Inv G.base ok env σ s.heap) (st : Stp G.base s s₁) (f : s.heap.get? a = none) (l : OwnL s₁.heap a vs) (rs : RepAll (fun b => okO ok σ b ∧ b ≠ a) s₁.heap vs ds)
    (hv : Holds env s₂.heap x (.ref a)) (ho : ∀ y u, y ≠ x → Holds env s₁.heap y u → Holds env s₂.heap y u) (F : Frame env s₂.heap) (m : Mv G.base (FrW env) s₁ s₂) :
    Inv G.base ok env (setS x (.own a ds) σ) s₂.heap ∧ Mv G.base (Wr env σ) s s₂ ∧ G.base.StaysIn s₂.heap ∧ ∀ b ∈ owned (setS x (.own a ds) σ), b ∈ owned σ ∨ b = a := by
    have i₁ := i.ext st.ext
    have m' : Mv G.base (Wr env σ) s s₂ := (st.mv (W := Wr env σ)).trans (m.weak fun _ w => Or.inl w) fun _ w => .inl w
    have hno : a ∉ owned σ := fun w => by obtain ⟨_, _, q⟩ := i.there a w; rw [f] at q; cases q
    have hb : G.base.get? a = none := by
      cases q : G.base.get? a with
      | none => rfl
      | some o => rw [k a o q] at f; cases f
    have old : ∀ b, (s.heap.get? b).isSome = true → b ≠ a := fun b q e => by rw [e, f] at q; cases q
    refine ⟨?_, m', m'.base k i.off, fun b w => (owned_setS_sub w).imp id fun w => List.mem_singleton.mp w⟩
    have hax : Inv G.base ok env σ s.heap := i
    -- the trees of the other names stood before the list was made
    have i₀ : Inv G.base (fun b => ok b ∧ b ≠ a) env σ s₁.heap := by
      refine ⟨i₁.frame, i₁.off, fun b e => ⟨i₁.fresh b e, fun q => ?_⟩, fun y d l' => ?_, fun y b es l' => ?_, i₁.there, i₁.once⟩
      · obtain ⟨_, q'⟩ := l; rw [← q, e] at q'; cases q'
      · obtain ⟨u, p, q⟩ := i.vals y d l'
        exact ⟨u, p.ext st.ext, q.ext st.ext fun b w z => ⟨⟨w.1, old b z⟩, w.2⟩⟩
      · obtain ⟨p, q, us, w, t⟩ := i.owns y b es l'
        exact ⟨p.ext st.ext, ⟨q, old b w.some⟩, us, st.ext.own w, t.ext st.ext fun b w z => ⟨⟨w.1, old b z⟩, w.2⟩⟩
    have up : ∀ b, okO (fun b => ok b ∧ b ≠ a) σ b → okO ok (setS x (.own a ds) σ) b := fun b q => ⟨q.1.1, fun z => (owned_setS_sub z).elim q.2 fun w => q.1.2 (List.mem_singleton.mp w)⟩
    have nf : ∀ {P : Addr → Prop} a, P a → IsNode s₁.heap a → ¬ FrW env a := fun a _ q => node_not_frame i₁.frame q
    have lst' : ∀ {b us}, OwnL s₁.heap b us → OwnL s₂.heap b us := fun {b us} lst => m.ext.own (node_not_frame i₁.frame (.list lst.list)) lst
    refine ⟨F, fun b w => ?_, fun b e => i₁.fresh b (m.dom b e), fun y e l' => ?_, fun y b es l' => ?_, fun b h => ?_, nodup_setS_own i.once (.inl hno)⟩
    · rcases w with w | w
      · exact i.off b (.inl w)
      · rcases owned_setS_sub w with w | w
        · exact i.off b (.inr w)
        · rw [List.mem_singleton.mp w]; exact hb
    · by_cases hy : y = x
      · subst hy; rw [lookup_setS_self] at l'; cases l'
      · rw [lookup_setS_ne hy] at l'
        obtain ⟨u, p, q⟩ := i₀.vals y e l'
        exact ⟨u, ho y u hy p, q.extBut m.ext nf fun b q _ => up b q⟩
    · by_cases hy : y = x
      · subst hy
        rw [lookup_setS_self] at l'; cases l'
        exact ⟨hv, i.fresh a f, vs, lst' l, rs.extBut m.ext nf fun b q _ => up b ⟨⟨q.1.1, q.2⟩, q.1.2⟩⟩
      · rw [lookup_setS_ne hy] at l'
        obtain ⟨p, q, us, lst, r⟩ := i₀.owns y b es l'
        exact ⟨ho y _ hy p, q.1, us, lst' lst, r.extBut m.ext nf fun b q _ => up b q⟩
    · rcases owned_setS_sub h with h | h
      · exact (i₁.there b h).imp fun _ => lst'
      · rw [List.mem_singleton.mp h]; exact ⟨_, lst' l⟩
/-- x = [..], x from now on the frame's own to fill -/
theorem Ex1.assignF {x : Str} {e : Expr} {p pos : Pos} {ds : List D} (h : EvF G n env σ e ds) (hx : Storable env x) (hs : swapsWith e (some (.Name x p)) pos.line env = pure false := by rfl) :
    Ex1 G n env σ (.Assign [.Name x p] e pos) fun fl σ' => fl = .next ∧ ∃ a, σ' = setS x (.own a ds) σ := fun ok A s E r k i =>
  wpAny_Assign_Name (wpAny_mono (h ok A s E r k i) (fun v s₁ p₁ => by
    obtain ⟨st, a, vs, rfl, f, l, rs⟩ := p₁
    refine wpAny_store (base := G.base) (i.ext st.ext).frame hx fun s₂ hv ho F m => ?_
    obtain ⟨i', m', k', o'⟩ := After.own k i st f l rs hv ho F m
    exact ⟨.next, _, ⟨rfl, a, rfl⟩, trivial, i', m', k', fun b w => (o' b w).imp id fun w => by rw [w]; exact f⟩) fun _ _ x => x) hs
theorem Ex1.ret {e : Expr} {pos : Pos} {d : D} {Q : Fl → St → Prop} (h : EvB G n env σ e d) (q : Q (.ret d) σ) : Ex1 G n env σ (.Return (some e) pos) Q := fun ok A s E r k i =>
  wpAny_Return_some (wpAny_mono (h ok A s E r k i) (fun v s₁ p₁ => ⟨.ret d, σ, q, p₁.2, i.ext p₁.1.ext, p₁.1.mv, p₁.1.ext.base k, fun _ w => .inl w⟩) fun _ _ x => x)
theorem Ex1.ite {t : Expr} {a b : List Stmt} {pos : Pos} {c : Bool} {Q : Fl → St → Prop} (h : Tr G n env σ t c) (ha : c = true → Ex G n env σ a Q) (hb : c = false → Ex G n env σ b Q) : Ex1 G n env σ (.If t a b pos) Q := fun ok A s E r k i =>
  wpAny_If (wpAny_mono (h ok A s E r k i) (fun c' s₁ p₁ => by
    obtain ⟨st, rfl⟩ := p₁
    have go : ∀ body, Ex G n env σ body Q → wpAny G.M A (execs body env) (After G env σ ok s Q) E s₁ := fun body hq =>
      wpAny_mono (hq ok A s₁ E r (st.ext.base k) (i.ext st.ext)) (fun _ _ a => a.trans st.mv (fun _ w => .inl w) fun b e => st.ext.none e) fun _ _ x => x
    cases c' with
    | true => exact go _ (ha rfl)
    | false => exact go _ (hb rfl)) fun _ _ x => x)
end
end Mine
end
section
open PySem PySem.W PyProof.Rows PySem.Calls
set_option maxRecDepth 100000
namespace Mine
section
variable {G : Gr} {n : Nat} {env : Env} {σ : St}
theorem owned_setS_same {x : Str} {a : Addr} {ds es : List D} (l : σ.lookup x = some (.own a ds)) : owned (setS x (.own a es) σ) = owned σ := by
  obtain ⟨l₁, l₂, l₃, h1, h2, h3⟩ := owned_setS x (.own a es) σ
  rw [h1, h2, h3 _ l]; rfl
/-- the frame's own list is filled on -/
theorem Inv.upd {base : Heap} {ok : Addr → Prop} {s : Shared} {h' : Heap} {x : Str} {a : Addr} {vs : List Value} {ds ds' : List D} (i : Inv base ok env σ s.heap) (l : σ.lookup x = some (.own a ds))
    (hs : Heap.SameBut a s.heap h') (hl : OwnL h' a vs) (rs : RepAll (okO ok σ) s.heap vs ds') : Inv base ok env (setS x (.own a ds') σ) h' ∧ ∀ tk, Mv base (Wr env σ) s { s with heap := h', toks := tk } := by
  have hm := owned_of_lookup l
  obtain ⟨us, hus⟩ := i.there a hm
  have nfa : ¬ FrW env a := node_not_frame i.frame (.list hus.list)
  have keep : ∀ b, b ≠ a → h'.get? b = s.heap.get? b := fun b hb => hs.2 b hb
  have X : ExtBut base (· = a) s.heap h' := fun b o w e => ⟨o, (keep b w).trans e, rfl, rfl, fun _ => rfl⟩
  have nf : ∀ b, okO ok σ b → IsNode s.heap b → ¬ (b = a) := fun b q _ e => q.2 (e ▸ hm)
  have eo := owned_setS_same (es := ds') l
  have hok : okO ok (setS x (.own a ds') σ) = okO ok σ := by funext b; unfold okO; rw [eo]
  have hh : ∀ y v, Holds env s.heap y v → Holds env h' y v := fun y v q => by
    rcases q with ⟨k, m, hn, r⟩ | ⟨k, c, hc, r⟩
    · exact .inl ⟨k, m, hn.sameBut hs fun e => nfa (.inl e.symm), r⟩
    · exact .inr ⟨k, c, hc, r.sameBut hs fun e => nfa (.inr ⟨y, e ▸ hc⟩)⟩
  have dom : ∀ b, h'.get? b = none → s.heap.get? b = none := fun b e => by
    by_cases hb : b = a
    · have := hl.some; rw [← hb, e] at this; cases this
    · rw [← keep b hb]; exact e
  refine ⟨⟨⟨i.frame.kind, ?_, fun y c q => ?_, i.frame.apart, i.frame.away, i.frame.glob, i.frame.blt⟩, fun b w => i.off b (w.imp id fun w => eo ▸ w), fun b e => i.fresh b (dom b e), fun y d q => ?_, fun y b es q => ?_, fun b w => ?_, eo ▸ i.once⟩, fun tk => ⟨fun b o w e => X b o (fun q => w (.inr (q ▸ hm))) e, dom, rfl, .refl⟩⟩
  · obtain ⟨m, hn⟩ := i.frame.ns
    exact ⟨m, hn.sameBut hs fun e => nfa (.inl e.symm)⟩
  · obtain ⟨v, hv⟩ := i.frame.cells y c q
    exact ⟨v, hv.sameBut hs fun e => nfa (.inr ⟨y, e ▸ q⟩)⟩
  · rw [hok]
    by_cases hy : y = x
    · subst hy; rw [lookup_setS_self] at q; cases q
    · rw [lookup_setS_ne hy] at q
      obtain ⟨u, p, r⟩ := i.vals y d q
      exact ⟨u, hh y u p, r.extBut X nf fun _ w _ => w⟩
  · rw [hok]
    by_cases hy : y = x
    · subst hy
      rw [lookup_setS_self] at q; cases q
      obtain ⟨p, o, _⟩ := i.owns y a ds l
      exact ⟨hh y _ p, o, vs, hl, rs.extBut X nf fun _ w _ => w⟩
    · rw [lookup_setS_ne hy] at q
      obtain ⟨p, o, ws, lw, rw'⟩ := i.owns y b es q
      have hne : b ≠ a := fun e => by
        subst e
        -- two names own the same list: not so
        have h1 : b ∉ owned (setS x (.val .none) σ) := notMem_setS_val i.once l
        exact h1 (owned_of_lookup (x := y) (ds := es) (by rw [lookup_setS_ne hy]; exact q))
      exact ⟨hh y _ p, o, ws, X.own hne lw, rw'.extBut X nf fun _ w _ => w⟩
  · rw [eo] at w
    by_cases hb : b = a
    · subst hb; exact ⟨vs, hl⟩
    · obtain ⟨ws, lw⟩ := i.there b w
      exact ⟨ws, X.own hb lw⟩
/-- x.append(e) -/
theorem Ex1.append {x : Str} {p1 p2 p3 pos : Pos} {e : Expr} {a : Addr} {ds : List D} {d : D} (l : σ.lookup x = some (.own a ds)) (h : Ev G n env σ e d) (hz : ds.length < sizeLine)
    (hd : (x == ("__debug__" : Str)) = false := by decide) (hc : (x == ("__classdict__" : Str)) = false := by decide)
    (hs : swapsWith (.Call (.Attribute (.Name x p1) "append" p2) [e] [] p3) none pos.line env = pure false := by rfl)
    (he1 : starEach [e] env = [(false, eval e env)] := by rfl)
    {pl : Sem Bool} (he : eval (.Call (.Attribute (.Name x p1) "append" p2) [e] [] p3) env = (do
      let ov ← eval (.Name x p1) env
      standAt p2.atName
      let (f, first) ← holding [ov] (getMethod ov "append" pl)
      callWith p3 f first (backTo p3 (starEach [e] env)) []) := by rfl) :
    Ex1 G n env σ (.Expr (.Call (.Attribute (.Name x p1) "append" p2) [e] [] p3) pos) fun fl σ' => fl = .next ∧ σ' = setS x (.own a (ds ++ [d])) σ := fun ok A s E r k i => by
  obtain ⟨q, o, vs, lv, rs⟩ := i.owns x a ds l
  refine wpAny_Expr (MethodCall_ (pl := pl) (wpAny_holds i.frame.kind q ?_ hd hc) he) (by unfold interactive; rw [i.frame.kind]; rfl) hs
  obtain ⟨m, hm⟩ := lv
  refine getMethod_list_append hm rfl rfl ?_
  refine callWith_callee (.builtin _) (by rw [he1]; rfl) (G := G) ?_ (by cases e <;> first | rfl | cases he1)
  refine PyProof.Rows.args_cons (wpAny_mono (h ok A s E r k i) (fun v s₁ p₁ => PyProof.Rows.args_nil ?_) fun _ _ x => x) he1
  have k₁ := p₁.1.ext.base k
  have i₁ := i.ext p₁.1.ext
  refine ⟨k₁, ?_⟩
  obtain ⟨m₁, hm₁⟩ := p₁.1.ext.own ⟨m, hm⟩
  refine append_at (hsz := by rw [List.size_toArray, rs.length]; omega) hm₁ fun h' hs' hl' => ?_
  have hl : OwnL h' a (vs ++ [v]) := ⟨m₁ + 1, by rw [hl']; simp⟩
  obtain ⟨i', m'⟩ := i₁.upd l hs' hl ((rs.stp p₁.1).append (.cons p₁.2 .nil))
  have mv := (p₁.1.mv (W := Wr env σ)).trans (m' s₁.toks) fun _ w => .inl w
  exact ⟨.next, _, ⟨rfl, rfl⟩, trivial, i', mv, mv.base k i.off, fun b w => .inl (owned_setS_same (es := ds ++ [d]) l ▸ w)⟩
theorem lookup_some_of_setS {x y : Str} {s t : Slot} (h : (setS x s σ).lookup y = some t) (n : y ≠ x) : σ.lookup y = some t := by rwa [lookup_setS_ne n] at h
/-- the own list is left as it is from here on: a value as any other -/
theorem Inv.freeze {base : Heap} {ok : Addr → Prop} {h : Heap} {x : Str} {a : Addr} {ds : List D} (i : Inv base ok env σ h) (l : σ.lookup x = some (.own a ds)) : Inv base ok env (setS x (.val (.list ds)) σ) h := by
  have up : ∀ b, okO ok σ b → okO ok (setS x (.val (.list ds)) σ) b := fun b q => ⟨q.1, fun z => q.2 (owned_setS_val z)⟩
  refine ⟨i.frame, fun b w => i.off b (w.imp id owned_setS_val), i.fresh, fun y d q => ?_, fun y b es q => ?_, fun b w => i.there b (owned_setS_val w), nodup_setS_val i.once⟩
  · by_cases hy : y = x
    · subst hy
      rw [lookup_setS_self] at q; cases q
      obtain ⟨p, o, vs, lv, rs⟩ := i.owns y a ds l
      exact ⟨_, p, .list ⟨o, notMem_setS_val i.once l⟩ lv.list (rs.weak up)⟩
    · obtain ⟨u, p, r⟩ := i.vals y d (lookup_some_of_setS q hy)
      exact ⟨u, p, r.weak up⟩
  · by_cases hy : y = x
    · subst hy; rw [lookup_setS_self] at q; cases q
    · obtain ⟨p, o, vs, lv, rs⟩ := i.owns y b es (lookup_some_of_setS q hy)
      exact ⟨p, o, vs, lv, rs.weak up⟩
theorem After.sub {ok : Addr → Prop} {s s' : Shared} {σ' : St} {Q : Fl → St → Prop} {f : Flow} (h : ∀ b ∈ owned σ', b ∈ owned σ) (a : After G env σ' ok s Q f s') : After G env σ ok s Q f s' := by
  obtain ⟨fl, σ₂, q, fi, i, m, k, o⟩ := a
  exact ⟨fl, σ₂, q, fi, i, m.weak fun b w => w.imp id (h b), k, fun b w => (o b w).imp (h b) id⟩
theorem Ex.freeze {x : Str} {a : Addr} {ds : List D} {body : List Stmt} {Q : Fl → St → Prop} (l : σ.lookup x = some (.own a ds)) (h : Ex G n env (setS x (.val (.list ds)) σ) body Q) : Ex G n env σ body Q := fun ok A s E r k i =>
  wpAny_mono (h ok A s E r k (i.freeze l)) (fun _ _ a => a.sub fun b w => owned_setS_val w) fun _ _ x => x
/-- forgetting -/
def Sub : St → St → Prop
  | [], _ => True
  | (x, s) :: r, σ => σ.lookup x = some s ∧ Sub r σ
theorem Sub.get {σ₀ : St} : ∀ {σ₁ : St}, Sub σ₀ σ₁ → ∀ {x : Str} {s : Slot}, σ₀.lookup x = some s → σ₁.lookup x = some s := by
  induction σ₀ with
  | nil => intro _ _ x s h; cases h
  | cons y r ih =>
    intro σ₁ hs x s h
    obtain ⟨y, t⟩ := y
    rw [List.lookup_cons] at h
    cases e : x == y with
    | true => rw [e] at h; cases h; rw [beq_iff_eq.mp e]; exact hs.1
    | false => rw [e] at h; exact ih hs.2 h
theorem Sub.owned {σ₀ σ₁ : St} (h : Sub σ₀ σ₁) : ∀ a ∈ owned σ₀, a ∈ owned σ₁ := by
  induction σ₀ with
  | nil => intro a w; cases w
  | cons y r ih =>
    obtain ⟨y, t⟩ := y
    intro a w
    rw [owned_cons] at w
    rcases List.mem_append.mp w with w | w
    · cases t with
      | val d => cases w
      | own b es => rw [List.mem_singleton.mp w]; exact owned_of_lookup h.1
    · exact ih h.2 a w
theorem Inv.sub {base : Heap} {ok : Addr → Prop} {h : Heap} {σ₀ : St} (i : Inv base ok env σ h) (hs : Sub σ₀ σ) (hn : (owned σ₀).Nodup) : Inv base ok env σ₀ h := by
  have up : ∀ b, okO ok σ b → okO ok σ₀ b := fun b q => ⟨q.1, fun z => q.2 (hs.owned b z)⟩
  exact ⟨i.frame, fun b w => i.off b (w.imp id (hs.owned b)), i.fresh, fun y d q => let ⟨u, p, r⟩ := i.vals y d (hs.get q); ⟨u, p, r.weak up⟩,
    fun y b es q => let ⟨p, o, vs, lv, rs⟩ := i.owns y b es (hs.get q); ⟨p, o, vs, lv, rs.weak up⟩, fun b w => i.there b (hs.owned b w), hn⟩
end
end Mine
end
section
open PySem PySem.W PyProof.Rows PySem.Calls
set_option maxRecDepth 100000
namespace Mine
section
variable {G : Gr} {n : Nat} {env : Env} {σ : St}
theorem RepAll.mv {base : Heap} {ok ok' : Addr → Prop} {s s' : Shared} {vs : List Value} {ds : List D} (i : Inv base ok env σ s.heap) (m : Mv base (Wr env σ) s s') (r : RepAll (okO ok σ) s.heap vs ds) (k : ∀ b, okO ok σ b → ok' b) : RepAll ok' s'.heap vs ds :=
  r.extBut m.ext (fun a q w z => z.elim (node_not_frame i.frame w) q.2) fun b q _ => k b q
/-- a target takes a value -/
def AssD (G : Gr) (n : Nat) (env : Env) (t : Expr) (d : D) (f : St → St) : Prop := ∀ σ ok A s E v, Room n A → G.base.StaysIn s.heap → Inv G.base ok env σ s.heap → Rep (okO ok σ) s.heap v d →
  wpAny G.M A (assign t env v) (fun _ s' => Inv G.base ok env (f σ) s'.heap ∧ Mv G.base (Wr env σ) s s' ∧ ∀ b ∈ owned (f σ), b ∈ owned σ) E s
theorem AssD.name {x : Str} {p : Pos} {d : D} (hx : Storable env x) : AssD G n env (.Name x p) d (setS x (.val d)) := fun σ ok A s E v r k i rp =>
  wpAny_assign_Name (wpAny_store (base := G.base) i.frame hx fun s' hv ho F m => ⟨i.set_val m F hv ho rp, m.weak fun _ w => .inl w, fun b w => owned_setS_val w⟩)
/-- a row of targets takes a row of values -/
def AssL (G : Gr) (n : Nat) (env : Env) (ts : List Expr) (ds : List D) (f : St → St) : Prop := ∀ σ ok A s E vs, Room n A → G.base.StaysIn s.heap → Inv G.base ok env σ s.heap → RepAll (okO ok σ) s.heap vs ds →
  wpAny G.M A (assignInOrder ((assignEach ts env).map (·.2)) vs) (fun _ s' => Inv G.base ok env (f σ) s'.heap ∧ Mv G.base (Wr env σ) s s' ∧ ∀ b ∈ owned (f σ), b ∈ owned σ) E s
theorem AssL.nil : AssL G n env [] [] id := fun σ ok A s E vs r k i rs => by
  cases rs
  exact wpAny_pure ⟨i, Stp.refl.mv, fun _ h => h⟩
theorem AssL.cons {t : Expr} {ts : List Expr} {d : D} {ds : List D} {f g : St → St} (h : AssD G n env t d f) (hs : AssL G n env ts ds g) (he : assignEach (t :: ts) env = (false, assign t env) :: assignEach ts env := by rfl) :
    AssL G n env (t :: ts) (d :: ds) (fun σ => g (f σ)) := fun σ ok A s E vs r k i rs => by
  cases rs with
  | cons a rest =>
    rw [he]
    refine wpAny_bind (wpAny_holding (wpAny_mono (h σ ok A s E _ r k i a) (fun _ s₁ p₁ => ?_) fun _ _ x => x))
    have up : ∀ b, okO ok σ b → okO ok (f σ) b := fun b q => ⟨q.1, fun z => q.2 (p₁.2.2 b z)⟩
    refine wpAny_mono (hs (f σ) ok A s₁ E _ r (p₁.2.1.base k i.off) p₁.1 (rest.mv i p₁.2.1 up)) (fun _ s₂ p₂ => ⟨p₂.1, p₁.2.1.trans p₂.2.1 fun b w => .inl (w.imp id (p₁.2.2 b)), fun b w => p₁.2.2 b (p₂.2.2 b w)⟩) fun _ _ x => x
theorem assignEach_length (ts : List Expr) : (assignEach ts env).length = ts.length := by
  induction ts with
  | nil => rfl
  | cons t r ih => cases t <;> simp [assignEach, ih]
theorem AssD.tuple {ts : List Expr} {k : Nat} {p : Pos} {ds : List D} {f : St → St} (h : AssL G n env ts ds f) (hn : ts.length = ds.length) (hstar : (assignEach ts env).findIdx? (·.1) = none := by rfl) : AssD G n env (.Tuple ts k p) (.tuple ds) f := fun σ ok A s E v r k i rp => by
  cases rp with
  | tuple o l rs =>
    refine assign_Tuple_tuple r.handled l (by rw [assignEach_length, hn, List.size_toArray, rs.length]) hstar fun h' he => ?_
    have st : Stp G.base s { s with heap := h' } := ⟨.of_stays fun b o e => he b o (Nat.ne_of_lt (Heap.lt_size e)) e, rfl, .refl⟩
    refine wpAny_mono (h σ ok A { s with heap := h' } E _ r (st.ext.base k) (i.ext st.ext) (rs.stp st)) (fun _ s₂ p₂ => ⟨p₂.1, (st.mv (W := Wr env σ)).trans p₂.2.1 fun _ w => .inl w, p₂.2.2⟩) fun _ _ x => x
/-- t = e, t a row of names -/
theorem Ex1.assignT {ts : List Expr} {k : Nat} {e : Expr} {p pos : Pos} {ds : List D} {f : St → St} (h : Ev G n env σ e (.tuple ds)) (ha : AssL G n env ts ds f) (hn : ts.length = ds.length := by rfl) (hstar : (assignEach ts env).findIdx? (·.1) = none := by rfl)
    (hs : swapsWithSole [.Tuple ts k p] e pos.line env = pure false := by rfl) (hw : swappedStores [.Tuple ts k p] e env = pure none := by rfl) :
    Ex1 G n env σ (.Assign [.Tuple ts k p] e pos) fun fl σ' => fl = .next ∧ σ' = f σ := fun ok A s E r k i =>
  Assign_Tuple (wpAny_mono (h ok A s E r k i) (fun v s₁ p₁ => wpAny_mono (AssD.tuple ha hn hstar σ ok A s₁ E v r (p₁.1.ext.base k) (i.ext p₁.1.ext) p₁.2) (fun _ s₂ p₂ =>
    have m := (p₁.1.mv (W := Wr env σ)).trans p₂.2.1 fun _ w => .inl w
    ⟨.next, _, ⟨rfl, rfl⟩, trivial, p₂.1, m, m.base k i.off, fun b w => .inl (p₂.2.2 b w)⟩) fun _ _ x => x) fun _ _ x => x) hs hw
/-- what an iterator does to the world: itself alone -/
structure MvI (base : Heap) (wr : Addr → Prop) (wg : Nat → Prop) (s s' : Shared) : Prop where
  ext : ExtBut base wr s.heap s'.heap
  dom : ∀ b, ¬ wr b → s'.heap.get? b = none → s.heap.get? b = none
  os : s'.os = s.os
  gkeep : ∀ (i : Nat) (x : GenState), ¬ wg i → s.gens[i]? = some x → s'.gens[i]? = some x
  gbare : (∀ x ∈ s.gens, x.bare = true) → ∀ x ∈ s'.gens, x.bare = true
theorem MvI.after {base : Heap} {W wr : Addr → Prop} {wg : Nat → Prop} {s s₁ s₂ : Shared} (m : Mv base W s s₁) (i : MvI base wr wg s₁ s₂) (h : ∀ a, wr a → s.heap.get? a = none) (hg : ∀ g, wg g → s.gens[g]? = none) : Mv base W s s₂ := by
  refine ⟨fun b o w e => ?_, fun b e => ?_, i.os.trans m.os, ⟨fun j x e => i.gkeep j x (fun z => by rw [hg j z] at e; cases e) (m.gens.keep j x e), fun q => i.gbare (m.gens.bare q)⟩⟩
  · obtain ⟨o', e', c', d', k'⟩ := m.ext b o w e
    obtain ⟨o'', e'', c'', d'', k''⟩ := i.ext b o' (fun z => by rw [h b z] at e; cases e) e'
    refine ⟨o'', e'', c''.trans c', d''.trans d', fun q => ?_⟩
    have := k' q; subst this
    exact k'' q
  · by_cases z : wr b
    · exact h b z
    · exact m.dom b (i.dom b z e)
/-- an iterator at work: the items that are to come -/
structure Itr (G : Gr) (A : Around) (ok : Addr → Prop) (target : Expr) (I : Addr) (ds : List D) (fp wr : Addr → Prop) (wg : Nat → Prop) (Sx : Nat → Shared → Prop) : Prop where
  frame : ∀ i s s' W, Sx i s → Mv G.base W s s' → (∀ a, fp a → ¬ W a) → (∀ a, ok a → IsNode s.heap a → ¬ W a) → Sx i s'
  node : ∀ i s a, Sx i s → wr a → ¬ IsNode s.heap a ∧ (s.heap.get? a).isSome = true
  item : ∀ i d s E ok', ds[i]? = some d → Sx i s → G.base.StaysIn s.heap → (∀ a, ok a → ok' a) → FreshOk ok' s.heap → wpAny G.M A (pyNext (.ref I)) (fun r s₁ => ∃ v, r = some v ∧
    wpAny G.M A (letOwnedTupleGo target (.ref I) v) (fun _ s' => Rep ok' s'.heap v d ∧ Sx (i + 1) s' ∧ MvI G.base wr wg s s') E s₁) E s
  done : ∀ s E, Sx ds.length s → G.base.StaysIn s.heap → wpAny G.M A (pyNext (.ref I)) (fun r s' => r = none ∧ MvI G.base wr wg s s') E s
  self : ∀ i s (Q : Value → Shared → Prop) E, Sx i s → Q (.ref I) s → wpAny G.M A (pyIter (.ref I)) Q E s
/-- the head of a for: the expression gives an iterator over ds -/
def EvI (G : Gr) (n : Nat) (env : Env) (σ : St) (e target : Expr) (ds : List D) : Prop := ∀ ok A s E, Room n A → G.base.StaysIn s.heap → Inv G.base ok env σ s.heap →
  wpAny G.M A (eval e env) (fun x s₁ => wpAny G.M A (pyIter x) (fun it s' => Stp G.base s s' ∧ ∃ I fp wr wg Sx, it = .ref I ∧
    Itr G A (fun a => okO ok σ a ∧ (s'.heap.get? a).isSome = true) target I ds fp wr wg Sx ∧ Sx 0 s' ∧ (∀ a, fp a → (s'.heap.get? a).isSome = true ∧ ¬ Wr env σ a) ∧ (∀ a, wr a → s.heap.get? a = none ∧ fp a) ∧ ∀ g, wg g → s.gens[g]? = none) E s₁) E s
/-- an iterator's steps leave the frame's state -/
theorem Inv.mvX {base : Heap} {ok ok' : Addr → Prop} {wr : Addr → Prop} {wg : Nat → Prop} {s s' : Shared} (i : Inv base ok env σ s.heap) (m : MvI base wr wg s s') (hf : ∀ a, wr a → ¬ Wr env σ a) (hn : ∀ a, wr a → IsNode s.heap a → ¬ ok a)
    (w : ∀ b, ok b → ok' b) (hd : FreshOk ok' s'.heap) : Inv base ok' env σ s'.heap := by
  have nf : ∀ a, okO ok σ a → IsNode s.heap a → ¬ wr a := fun a o q z => hn a z q o.1
  have hh : ∀ y v, Holds env s.heap y v → Holds env s'.heap y v := fun y v q => by
    rcases q with ⟨k, mm, hns, r⟩ | ⟨k, c, hc, r⟩
    · obtain ⟨o, es, ep, e, d, rr⟩ := hns
      obtain ⟨o', e', _, d', _⟩ := m.ext _ o (fun z => hf _ z (.inl (.inl rfl))) e
      exact .inl ⟨k, mm, ⟨o', es, ep, e', d'.trans d, rr⟩, r⟩
    · obtain ⟨o, e, d⟩ := r
      obtain ⟨o', e', _, d', _⟩ := m.ext _ o (fun z => hf _ z (.inl (.inr ⟨y, hc⟩))) e
      exact .inr ⟨k, c, hc, o', e', d'.trans d⟩
  have up : ∀ b, okO ok σ b → okO ok' σ b := fun b q => ⟨w b q.1, q.2⟩
  refine ⟨⟨i.frame.kind, ?_, fun y c q => ?_, i.frame.apart, i.frame.away, i.frame.glob, i.frame.blt⟩, i.off, hd, fun y d q => ?_, fun y b es q => ?_, fun b w => ?_, i.once⟩
  · obtain ⟨mm, o, es, ep, e, d, rr⟩ := i.frame.ns
    obtain ⟨o', e', _, d', _⟩ := m.ext _ o (fun z => hf _ z (.inl (.inl rfl))) e
    exact ⟨mm, o', es, ep, e', d'.trans d, rr⟩
  · obtain ⟨v, o, e, d⟩ := i.frame.cells y c q
    obtain ⟨o', e', _, d', _⟩ := m.ext _ o (fun z => hf _ z (.inl (.inr ⟨y, q⟩))) e
    exact ⟨v, o', e', d'.trans d⟩
  · obtain ⟨u, p, r⟩ := i.vals y d q
    exact ⟨u, hh y u p, r.extBut m.ext nf fun _ z _ => up _ z⟩
  · obtain ⟨p, o, vs, lv, rs⟩ := i.owns y b es q
    exact ⟨hh y _ p, w b o, vs, m.ext.own (fun z => hf b z (.inr (owned_of_lookup q))) lv, rs.extBut m.ext nf fun _ z _ => up _ z⟩
  · obtain ⟨vs, lv⟩ := i.there b w
    exact ⟨vs, m.ext.own (fun z => hf b z (.inr w)) lv⟩
theorem Inv.mvI {base : Heap} {ok : Addr → Prop} {wr : Addr → Prop} {wg : Nat → Prop} {s s' : Shared} (i : Inv base ok env σ s.heap) (m : MvI base wr wg s s') (hf : ∀ a, wr a → ¬ Wr env σ a) (hn : ∀ a, wr a → ¬ IsNode s.heap a)
    (hd : ∀ b, wr b → ok b) : Inv base ok env σ s'.heap :=
  i.mvX m hf (fun a w nd _ => hn a w nd) (fun _ q => q) fun b e => by
    by_cases z : wr b
    · exact hd b z
    · exact i.fresh b (m.dom b z e)
end
/-- an object stands, up to a namespace's marks -/
def Same1 (base h h' : Heap) (b : Addr) : Prop := ∀ o, h.get? b = some o → ∃ o', h'.get? b = some o' ∧ o'.cls = o.cls ∧ o'.data = o.data ∧ ((base.get? b).isSome = true ∨ isDict o.data = false → o' = o)
/-- what is known besides the frame's state: of objects that the frame does not write -/
structure Rd (base : Heap) (env : Env) (fp : Addr → Prop) (H : Around → Heap → Prop) : Prop where
  keep : ∀ A h h', H A h → (∀ b, fp b → Same1 base h h' b) → H A h'
  apart : ∀ A h, H A h → Frame env h → ∀ b, fp b → (h.get? b).isSome = true ∧ ¬ FrW env b ∧ ∀ vs, ¬ OwnL h b vs
/-- an iterator that also writes tuples that it alone knows: X -/
structure ItrX (G : Gr) (A : Around) (ok X : Addr → Prop) (target : Expr) (I : Addr) (ds : List D) (fp wr : Addr → Prop) (wg : Nat → Prop) (Sx : Nat → Shared → Prop) : Prop where
  frame : ∀ i s s' W, Sx i s → Mv G.base W s s' → (∀ a, fp a → ¬ W a) → (∀ a, ok a → IsNode s.heap a → ¬ W a) → Sx i s'
  node : ∀ i s a, Sx i s → wr a → (¬ X a → ¬ IsNode s.heap a) ∧ (s.heap.get? a).isSome = true
  item : ∀ i d s E ok', ds[i]? = some d → Sx i s → G.base.StaysIn s.heap → (∀ a, ok a → ok' a) → FreshOk ok' s.heap → wpAny G.M A (pyNext (.ref I)) (fun r s₁ => ∃ v, r = some v ∧
    wpAny G.M A (letOwnedTupleGo target (.ref I) v) (fun _ s' => Rep ok' s'.heap v d ∧ Sx (i + 1) s' ∧ MvI G.base wr wg s s') E s₁) E s
  done : ∀ s E, Sx ds.length s → G.base.StaysIn s.heap → wpAny G.M A (pyNext (.ref I)) (fun r s' => r = none ∧ MvI G.base wr wg s s') E s
def EvIX (G : Gr) (n : Nat) (env : Env) (σ : St) (e target : Expr) (ds : List D) : Prop := ∀ ok A s E, Room n A → G.base.StaysIn s.heap → Inv G.base ok env σ s.heap →
  wpAny G.M A (eval e env) (fun x s₁ => wpAny G.M A (pyIter x) (fun it s' => Stp G.base s s' ∧ ∃ I fp wr wg Sx X, it = .ref I ∧
    ItrX G A (fun a => okO ok σ a ∧ (s'.heap.get? a).isSome = true ∧ ¬ X a) X target I ds fp wr wg Sx ∧ Sx 0 s' ∧ (∀ a, fp a → (s'.heap.get? a).isSome = true ∧ ¬ Wr env σ a) ∧ (∀ a, wr a → s.heap.get? a = none ∧ fp a) ∧ (∀ a, X a → wr a) ∧ ∀ g, wg g → s.gens[g]? = none) E s₁) E s
section
variable {G : Gr} {n : Nat} {env : Env} {σ : St} {fp : Addr → Prop} {H : Around → Heap → Prop}
theorem Rd.ext {base h h' : Heap} {A : Around} (R : Rd base env fp H) (x : Ext base h h') (k : H A h) : H A h' := R.keep A h h' k fun b _ o e => x b o e
theorem Rd.mv {ok : Addr → Prop} {base : Heap} {A : Around} {s s' : Shared} (R : Rd base env fp H) (i : Inv base ok env σ s.heap) (m : Mv base (Wr env σ) s s') (k : H A s.heap) : H A s'.heap :=
  R.keep A _ _ k fun b hb o e => m.ext b o (fun w => by
    obtain ⟨_, h2, h3⟩ := R.apart A _ k i.frame b hb
    rcases w with w | w
    · exact h2 w
    · obtain ⟨vs, l⟩ := i.there b w; exact h3 vs l) e
def ExP (G : Gr) (n : Nat) (env : Env) (H : Around → Heap → Prop) (σ : St) (body : List Stmt) (Q : Fl → St → Prop) : Prop := ∀ ok A s E, H A s.heap → Room n A → G.base.StaysIn s.heap → Inv G.base ok env σ s.heap →
  wpAny G.M A (execs body env) (After G env σ ok s Q) E s
def ExP1 (G : Gr) (n : Nat) (env : Env) (H : Around → Heap → Prop) (σ : St) (st : Stmt) (Q : Fl → St → Prop) : Prop := ∀ ok A s E, H A s.heap → Room n A → G.base.StaysIn s.heap → Inv G.base ok env σ s.heap →
  wpAny G.M A (exec st env) (After G env σ ok s Q) E s
theorem ExP.of {body : List Stmt} {Q : Fl → St → Prop} (h : Ex G n env σ body Q) : ExP G n env H σ body Q := fun ok A s E _ r k i => h ok A s E r k i
theorem Inv.hides {base h h' : Heap} {ok X : Addr → Prop} (i : Inv base ok env σ h) (x : Ext base h h') (hX : ∀ a, X a → h.get? a = none) (hX' : ∀ a, X a → (h'.get? a).isSome = true) : Inv base (fun b => ok b ∧ ¬ X b) env σ h' := by
  have i' := i.ext x
  have old : ∀ b, (h.get? b).isSome = true → ¬ X b := fun b q w => by rw [hX b w] at q; cases q
  refine ⟨i'.frame, i'.off, fun b e => ⟨i'.fresh b e, fun w => by have := hX' b w; rw [e] at this; cases this⟩, fun y d l => ?_, fun y b es l => ?_, i'.there, i'.once⟩
  · obtain ⟨u, p, q⟩ := i.vals y d l
    exact ⟨u, p.ext x, q.ext x fun b w z => ⟨⟨w.1, old b z⟩, w.2⟩⟩
  · obtain ⟨p, q, us, w, t⟩ := i.owns y b es l
    exact ⟨p.ext x, ⟨q, old b w.some⟩, us, x.own w, t.ext x fun b w z => ⟨⟨w.1, old b z⟩, w.2⟩⟩
theorem Inv.wide {base h : Heap} {ok ok' : Addr → Prop} (i : Inv base ok env σ h) (w : ∀ b, ok b → ok' b) (f : FreshOk ok' h) : Inv base ok' env σ h :=
  ⟨i.frame, i.off, f, fun y d l => let ⟨u, p, q⟩ := i.vals y d l; ⟨u, p, q.weak fun b z => ⟨w b z.1, z.2⟩⟩, fun y b es l => let ⟨p, q, us, z, t⟩ := i.owns y b es l; ⟨p, w b q, us, z, t.weak fun b z => ⟨w b z.1, z.2⟩⟩, i.there, i.once⟩
theorem turn_lt {j n : Nat} (h : j < n) : n + 1 - (j + 1) < n + 1 - j := by omega
/-- what holds between two turns -/
inductive FxI (G : Gr) (env : Env) (σ : St) (ok : Addr → Prop) (H : Around → Heap → Prop) (A : Around) (J : Nat → St → Prop) (Sx : Nat → Shared → Prop) (wr : Addr → Prop) (len : Nat) (s s₂ : Shared) (m : Nat) (s' : Shared) : Prop
  | mk (j : Nat) (σ₁ : St) (hj : j ≤ len) (hm : m = len + 1 - j) (hJ : J j σ₁) (hSx : Sx j s') (inv : Inv G.base ok env σ₁ s'.heap) (mv : Mv G.base (Wr env σ) s s') (hk : G.base.StaysIn s'.heap) (hq : H A s'.heap)
    (how : ∀ a ∈ owned σ₁, a ∈ owned σ ∨ s₂.heap.get? a = none) (hdom : ∀ b, ¬ wr b → s'.heap.get? b = none → s₂.heap.get? b = none) : FxI G env σ ok H A J Sx wr len s s₂ m s'
theorem ExP1.forX {target iter : Expr} {body : List Stmt} {pos : Pos} {ds : List D} {f : D → St → St} {Q : Fl → St → Prop} (R : Rd G.base env fp H) (hi : EvIX G n env σ iter target ds) (ht : ∀ d ∈ ds, AssD G n env target d (f d)) (J : Nat → St → Prop) (h0 : J 0 σ)
    (turn : ∀ i d σ₁, ds[i]? = some d → J i σ₁ → ExP G n env H (f d σ₁) body fun fl σ₂ => match fl with
      | .next | .cont => J (i + 1) σ₂
      | .brk => Q .next σ₂
      | .ret r => Q (.ret r) σ₂)
    (done : ∀ σ₁, J ds.length σ₁ → Q .next σ₁) (hs : ∀ x, foldedSetIterable iter env x = pure x := by intro _; rfl) : ExP1 G n env H σ (.For target iter body [] pos) Q := fun ok A s E hq0 r k i => by
  refine wpAny_For (wpAny_mono (hi ok A s E r k i) (fun x s₁ p₁ => wpAny_mono p₁ (fun it s₂ p₂ => ?_) fun _ _ x => x) fun _ _ x => x) hs
  obtain ⟨st, I, fpi, wr, wg, Sx, X, rfl, W, hst, hfp, hwr, hX, hwg⟩ := p₂
  have i₂ : Inv G.base (fun b => ok b ∧ ¬ X b) env σ s₂.heap := i.hides st.ext (fun a w => (hwr a (hX a w)).1) fun a w => (W.node 0 s₂ a hst (hX a w)).2
  have hwfp : ∀ a, wr a → ¬ fp a := fun a h1 h2 => by
    have := (R.apart A _ hq0 i.frame a h2).1
    rw [(hwr a h1).1] at this; cases this
  refine codeAny_forLoop_any (FxI G env σ (fun b => ok b ∧ ¬ X b) H A J Sx wr ds.length s s₂) ?_ (ds.length + 1) ⟨0, σ, Nat.zero_le _, rfl, h0, hst, i₂, st.mv, st.ext.base k, R.ext st.ext hq0, fun a w => .inl w, fun _ _ e => e⟩
  rintro m s' ⟨j, σ₁, hj, rfl, hJ, hSx, hinv, hmv, hk, hq, how, hdom⟩
  have hfpw : ∀ a, fpi a → ¬ Wr env σ₁ a := fun a q w => by
    rcases w with w | w
    · exact (hfp a q).2 (.inl w)
    · rcases how a w with w | w
      · exact (hfp a q).2 (.inr w)
      · have := (hfp a q).1; rw [w] at this; cases this
  have hwr2 : ∀ a, wr a → ¬ Wr env σ₁ a := fun a q => hfpw a (hwr a q).2
  have hok1 : ∀ a, (okO ok σ a ∧ (s₂.heap.get? a).isSome = true ∧ ¬ X a) → okO (fun b => ok b ∧ ¬ X b) σ₁ a := fun a q => ⟨⟨q.1.1, q.2.2⟩, fun w => (how a w).elim q.1.2 fun z => by rw [z] at q; cases q.2.1⟩
  by_cases hlt : j < ds.length
  · have hd : ds[j]? = some ds[j] := List.getElem?_eq_getElem hlt
    refine wpAny_mono (W.item j ds[j] s' _ (okO (fun b => ok b ∧ ¬ X b) σ₁) hd hSx hk hok1 hinv.freshO) (fun r' s₃ q => ?_) fun _ _ x => x
    obtain ⟨v, rfl, q⟩ := q
    refine wpAny_mono q (fun _ s₄ q => ?_) fun _ _ x => x
    obtain ⟨rp, hSx', mi⟩ := q
    have inv₄ := hinv.mvX mi hwr2 (fun a w nd q => (W.node j s' a hSx w).1 q.2 nd) (fun _ q => q) fun b e => by
      have nw : ¬ wr b := fun w => by have := (W.node _ s₄ b hSx' w).2; rw [e] at this; cases this
      exact hinv.fresh b (mi.dom b nw e)
    have mv₄ := MvI.after hmv mi (fun a w => (hwr a w).1) hwg
    have hk₄ := mv₄.base k i.off
    have hq₄ : H A s₄.heap := R.keep A _ _ hq fun b hb o e => mi.ext b o (fun z => hwfp b z hb) e
    refine wpAny_mono (ht ds[j] (List.getElem_mem hlt) σ₁ (fun b => ok b ∧ ¬ X b) A s₄ _ v r hk₄ inv₄ rp) (fun _ s₅ q => ?_) fun _ _ x => x
    obtain ⟨inv₅, mv₅, ow₅⟩ := q
    have hq₅ : H A s₅.heap := R.mv inv₄ mv₅ hq₄
    have mv₅' : Mv G.base (Wr env σ) s s₅ := mv₄.trans mv₅ fun a w => by
      rcases w with w | w
      · exact .inl (.inl w)
      · exact (how a w).imp .inr fun z => st.ext.none z
    have hk₅ := mv₅'.base k i.off
    have hSx₅ : Sx (j + 1) s₅ := W.frame (j + 1) s₄ s₅ _ hSx' mv₅ (fun a q => hfpw a q) fun a q nd w => by
      rcases w with w | w
      · exact node_not_frame inv₄.frame nd w
      · exact (hok1 a q).2 w
    refine wpAny_mono (turn j ds[j] σ₁ hd hJ (fun b => ok b ∧ ¬ X b) A s₅ _ hq₅ r hk₅ inv₅) (fun fl s₆ q => ?_) fun _ _ x => x
    obtain ⟨fl', σ₂, q, fi, inv₆, mv₆, hk₆, ow₆⟩ := q
    have mv₆' : Mv G.base (Wr env σ) s s₆ := mv₅'.trans mv₆ fun a w => by
      rcases w with w | w
      · exact .inl (.inl w)
      · exact (how a (ow₅ a w)).imp .inr fun z => st.ext.none z
    have dom₅ : ∀ b, ¬ wr b → s₅.heap.get? b = none → s₂.heap.get? b = none := fun b nz e => hdom b nz (mi.dom b nz (mv₅.dom b e))
    have how₆ : ∀ a ∈ owned σ₂, a ∈ owned σ ∨ s₂.heap.get? a = none := fun a w => by
      rcases ow₆ a w with w | w
      · exact how a (ow₅ a w)
      · exact .inr (dom₅ a (fun z => by have := (W.node _ _ a hSx₅ z).2; rw [w] at this; cases this) w)
    have how₆' : ∀ a ∈ owned σ₂, a ∈ owned σ ∨ s.heap.get? a = none := fun a w => (how₆ a w).imp id fun z => st.ext.none z
    have go : J (j + 1) σ₂ → ∃ m, m < ds.length + 1 - j ∧ FxI G env σ (fun b => ok b ∧ ¬ X b) H A J Sx wr ds.length s s₂ m s₆ := fun hq =>
      ⟨ds.length + 1 - (j + 1), turn_lt hlt, j + 1, σ₂, hlt, rfl, hq, W.frame (j + 1) s₅ s₆ _ hSx₅ mv₆ (fun a q w => by
          rcases w with w | w
          · exact (hfp a q).2 (.inl w)
          · exact hfpw a q (.inr (ow₅ a w))) (fun a q nd w => by
          rcases w with w | w
          · exact node_not_frame inv₅.frame nd w
          · exact (hok1 a q).2 (ow₅ a w)), inv₆, mv₆', hk₆, R.mv inv₅ mv₆ hq₅, how₆, fun b nz e => dom₅ b nz (mv₆.dom b e)⟩
    cases fl <;> cases fl' <;> first | exact fi.elim | skip
    · exact go q
    · exact ⟨.next, σ₂, q, trivial, inv₆.wide (fun b q => q.1) fun b e => i.fresh b (mv₆'.dom b e), mv₆', hk₆, how₆'⟩
    · exact go q
    · exact ⟨.ret _, σ₂, q, Rep.weak fi fun b q => q.1, inv₆.wide (fun b q => q.1) fun b e => i.fresh b (mv₆'.dom b e), mv₆', hk₆, how₆'⟩
  · have hjl : j = ds.length := Nat.le_antisymm hj (Nat.not_lt.mp hlt)
    subst hjl
    refine wpAny_mono (W.done s' _ hSx hk) (fun r' s₃ q => ?_) fun _ _ x => x
    obtain ⟨rfl, mi⟩ := q
    have mv₃ := MvI.after hmv mi (fun a w => (hwr a w).1) hwg
    have inv₃ := hinv.mvX (ok' := ok) mi hwr2 (fun a w nd q => (W.node _ s' a hSx w).1 q.2 nd) (fun b q => q.1) fun b e => i.fresh b (mv₃.dom b e)
    exact wpAny_execs_nil ⟨.next, σ₁, done σ₁ hJ, trivial, inv₃, mv₃, mv₃.base k i.off, fun a w => (how a w).imp id fun z => st.ext.none z⟩
theorem EvI.x {e target : Expr} {ds : List D} (h : EvI G n env σ e target ds) : EvIX G n env σ e target ds := fun ok A s E r k i =>
  wpAny_mono (h ok A s E r k i) (fun x s₁ p => wpAny_mono p (fun it s₂ q => by
    obtain ⟨st, I, fp, wr, wg, Sx, e, W, h1, h2, h3, h4⟩ := q
    exact ⟨st, I, fp, wr, wg, Sx, fun _ => False, e, ⟨fun i s s' W' a b c d => W.frame i s s' W' a b c fun x y => d x ⟨y.1, y.2, fun z => z⟩, fun i s a x y => ⟨fun _ => (W.node i s a x y).1, (W.node i s a x y).2⟩, fun i d s E ok' a b c x => W.item i d s E ok' a b c fun y z => x y ⟨z.1, z.2, fun z => z⟩, W.done⟩, h1, h2, h3, fun _ z => z.elim, h4⟩) fun _ _ x => x) fun _ _ x => x
theorem ExP1.for {target iter : Expr} {body : List Stmt} {pos : Pos} {ds : List D} {f : D → St → St} {Q : Fl → St → Prop} (R : Rd G.base env fp H) (hi : EvI G n env σ iter target ds) (ht : ∀ d ∈ ds, AssD G n env target d (f d)) (J : Nat → St → Prop) (h0 : J 0 σ)
    (turn : ∀ i d σ₁, ds[i]? = some d → J i σ₁ → ExP G n env H (f d σ₁) body fun fl σ₂ => match fl with
      | .next | .cont => J (i + 1) σ₂
      | .brk => Q .next σ₂
      | .ret r => Q (.ret r) σ₂)
    (done : ∀ σ₁, J ds.length σ₁ → Q .next σ₁) (hs : ∀ x, foldedSetIterable iter env x = pure x := by intro _; rfl) : ExP1 G n env H σ (.For target iter body [] pos) Q :=
  ExP1.forX R hi.x ht J h0 turn done hs
theorem rdT {base : Heap} : Rd base env (fun _ => False) (fun _ _ => True) := ⟨fun _ _ _ _ _ => trivial, fun _ _ _ _ _ z => z.elim⟩
theorem Ex1.for {target iter : Expr} {body : List Stmt} {pos : Pos} {ds : List D} {f : D → St → St} {Q : Fl → St → Prop} (hi : EvI G n env σ iter target ds) (ht : ∀ d ∈ ds, AssD G n env target d (f d)) (J : Nat → St → Prop) (h0 : J 0 σ)
    (turn : ∀ i d σ₁, ds[i]? = some d → J i σ₁ → Ex G n env (f d σ₁) body fun fl σ₂ => match fl with
      | .next | .cont => J (i + 1) σ₂
      | .brk => Q .next σ₂
      | .ret r => Q (.ret r) σ₂)
    (done : ∀ σ₁, J ds.length σ₁ → Q .next σ₁) (hs : ∀ x, foldedSetIterable iter env x = pure x := by intro _; rfl) : Ex1 G n env σ (.For target iter body [] pos) Q := fun ok A s E r k i =>
  ExP1.forX rdT hi.x ht J h0 (fun i d σ₁ h1 h2 => .of (turn i d σ₁ h1 h2)) done hs ok A s E trivial r k i
end
end Mine
end
section
open PySem PySem.W PyProof.Rows PySem.Calls
set_option maxRecDepth 100000
namespace Mine
section
variable {G : Gr} {n : Nat} {env : Env} {σ : St}
def plainIter (T : String) : Bool := !(["enumerate", "zip", "dict_itemiterator", "dict_reverseitemiterator", "odict_iterator", "itertools.zip_longest", "itertools.pairwise", "list", "tuple", "slice", "range"] : List String).contains T
theorem letOwned_plain {M : Model} {A : Around} {E : Value → Shared → Prop} {s : Shared} {target : Expr} {I : Addr} {v : Value} {o : Obj} {T : String} {Q : Unit → Shared → Prop} (ho : s.heap.get? I = some o) (hc : o.cls = .type T) (hT : plainIter T = true)
    (h : Q () s) : wpAny M A (letOwnedTupleGo target (.ref I) v) Q E s := by
  have hT' : (["enumerate", "zip", "dict_itemiterator", "dict_reverseitemiterator", "odict_iterator", "itertools.zip_longest", "itertools.pairwise"] : List String).contains T = false := by
    unfold plainIter at hT
    simp only [List.contains_cons, List.contains_nil, Bool.or_false, Bool.not_eq_true', Bool.or_eq_false_iff] at hT ⊢
    exact ⟨hT.1, hT.2.1, hT.2.2.1, hT.2.2.2.1, hT.2.2.2.2.1, hT.2.2.2.2.2.1, hT.2.2.2.2.2.2.1⟩
  have go : wpAny M A (match (Value.ref I, v) with
      | (.ref r, .ref a) => (do
        let o ← load r
        match o.cls, o.data with
        | .type n, .fields vs =>
          if ["enumerate", "zip", "dict_itemiterator", "dict_reverseitemiterator", "odict_iterator", "itertools.zip_longest", "itertools.pairwise"].contains n && vs[0]? == some (rawInt a) then
            rule "for.unpacks-the-owned-tuple"
            updateField r 0 .none
        | _, _ => pure () : Sem Unit)
      | _ => pure ()) Q E s := by
    cases v <;> first | exact wpAny_pure h | skip
    refine wpAny_bind (wpAny_load ho ?_)
    rw [hc]
    cases o.data <;> first | exact wpAny_pure h | skip
    simp only [hT', Bool.false_and, Bool.false_eq_true, if_false]
    exact wpAny_pure h
  cases target <;> first | exact wpAny_pure h | exact go
theorem MvI.of_keep {base : Heap} {I : Addr} {s : Shared} {h' : Heap} {tk : Nat} (h : ∀ b o, b ∉ [I] → s.heap.get? b = some o → h'.get? b = some o) : MvI base (· = I) (fun _ => False) s { s with heap := h', toks := tk } :=
  ⟨fun b o w e => ⟨o, h b o (by simpa using w) e, rfl, rfl, fun _ => rfl⟩, fun b w e => (by
    cases q : s.heap.get? b with
    | none => rfl
    | some o => (have := h b o (by simpa using w) q; rw [show h'.get? b = none from e] at this; cases this)), rfl, fun _ _ _ e => e, fun q => q⟩
theorem Itr.of_walks {A : Around} {ok : Addr → Prop} {target : Expr} {I : Addr} {ds ds' : List D} {vs : List Value} {fpl : List Addr} {m : Nat} {P : Nat → Value → Prop} {Stt : Nat → Heap → Prop} (W : Walks G.prog G.w A I fpl [I] m P Stt) (hm : m = ds.length)
    (hfp : ∀ b ∈ fpl, b = I ∨ (ok b ∧ ∀ i h, Stt i h → IsNode h b)) (hobj : ∀ i h, Stt i h → ∃ o T, h.get? I = some o ∧ o.cls = .type T ∧ isDict o.data = false ∧ plainIter T = true)
    (hP : ∀ i v d h, ds[i]? = some d → P i v → RepAll ok h vs ds' → Rep ok h v d) :
    Itr G A ok target I ds (· = I) (· = I) (fun _ => False) (fun i s => Stt i s.heap ∧ RepAll ok s.heap vs ds') where
  frame := fun i s s' W' hs mv hf hn => by
    refine ⟨W.frame i s.heap s'.heap hs.1 fun b hb o e => ?_, hs.2.extBut mv.ext hn fun _ q _ => q⟩
    rcases hfp b hb with rfl | ⟨q1, q2⟩
    · obtain ⟨o₁, T, e₁, _, d₁, _⟩ := hobj i _ hs.1
      rw [e] at e₁; cases e₁
      obtain ⟨o', e', _, _, k'⟩ := mv.ext b o (hf b rfl) e
      rw [e', k' (.inr d₁)]
    · have nd := q2 i _ hs.1
      obtain ⟨o', e', _, _, k'⟩ := mv.ext b o (hn b q1 nd) e
      rw [e', k' (.inr ?_)]
      cases nd with
      | list l => obtain ⟨o₂, e₂, _, k, d⟩ := l; rw [e] at e₂; cases e₂; rw [d]; rfl
      | tup l => obtain ⟨o₂, e₂, _, k, d⟩ := l; rw [e] at e₂; cases e₂; rw [d]; rfl
      | slice e₂ _ d => rw [e] at e₂; cases e₂; rw [d]; rfl
      | rng e₂ => unfold IsRange at e₂; rw [e] at e₂; cases e₂; rfl
  node := fun i s a hs ha => by
    subst ha
    obtain ⟨o, T, e, c, _, hT⟩ := hobj i _ hs.1
    refine ⟨fun nd => ?_, by rw [e]; rfl⟩
    cases nd with
    | list l => obtain ⟨o₂, e₂, c₂, _⟩ := l; rw [e] at e₂; cases e₂; rw [c] at c₂; cases c₂; cases hT
    | tup l => obtain ⟨o₂, e₂, c₂, _⟩ := l; rw [e] at e₂; cases e₂; rw [c] at c₂; cases c₂; cases hT
    | slice e₂ c₂ _ => rw [e] at e₂; cases e₂; rw [c] at c₂; cases c₂; cases hT
    | rng e₂ => unfold IsRange at e₂; rw [e] at e₂; cases e₂; cases c; cases hT
  item := fun i d s E ok' hd hs k hok hfr => by
    have hlt : i < m := by rw [hm]; exact (List.getElem?_eq_some_iff.mp hd).1
    refine W.item i s _ E hlt hs.1 fun v h' tk hp hst hk => ?_
    have mi : MvI G.base (· = I) (fun _ => False) s { s with heap := h', toks := tk } := .of_keep hk
    have rs : RepAll ok h' vs ds' := hs.2.extBut mi.ext (fun a q nd z => by
      obtain ⟨o, T, e, c, _, hT⟩ := hobj i _ hs.1
      subst z
      cases nd with
      | list l => obtain ⟨o₂, e₂, c₂, _⟩ := l; rw [e] at e₂; cases e₂; rw [c] at c₂; cases c₂; cases hT
      | tup l => obtain ⟨o₂, e₂, c₂, _⟩ := l; rw [e] at e₂; cases e₂; rw [c] at c₂; cases c₂; cases hT
      | slice e₂ c₂ _ => rw [e] at e₂; cases e₂; rw [c] at c₂; cases c₂; cases hT
      | rng e₂ => unfold IsRange at e₂; rw [e] at e₂; cases e₂; cases c; cases hT) fun _ q _ => q
    obtain ⟨o, T, e, c, _, hT⟩ := hobj _ _ hst
    exact ⟨v, rfl, letOwned_plain e c hT ⟨(hP i v d h' hd hp rs).weak hok, ⟨hst, rs⟩, mi⟩⟩
  done := fun s E hs k => W.done s _ E (hm ▸ hs.1) fun h' tk hk => ⟨rfl, .of_keep hk⟩
  self := fun i s Q E hs hq => W.self i s Q E hs.1 hq
/-- a value that may stand in a for's head -/
def IterD (G : Gr) (n : Nat) (d : D) (ds : List D) : Prop := ∀ ok A s E v target, Room n A → G.base.StaysIn s.heap → FreshOk ok s.heap → Rep ok s.heap v d →
  wpAny G.M A (pyIter v) (fun it s' => Stp G.base s s' ∧ ∃ I Sx, it = .ref I ∧ s.heap.get? I = none ∧ (s'.heap.get? I).isSome = true ∧
    Itr G A (fun a => ok a ∧ (s'.heap.get? a).isSome = true) target I ds (· = I) (· = I) (fun _ => False) Sx ∧ Sx 0 s') E s
theorem EvI.of_ev {e target : Expr} {d : D} {ds : List D} (h : Ev G n env σ e d) (hd : IterD G n d ds) : EvI G n env σ e target ds := fun ok A s E r k i =>
  wpAny_mono (h ok A s E r k i) (fun v s₁ p₁ => wpAny_mono (hd _ A s₁ E v target r (p₁.1.ext.base k) (i.ext p₁.1.ext).freshO p₁.2) (fun it s₂ p₂ => by
    obtain ⟨st, I, Sx, rfl, hI, hI', W, hs⟩ := p₂
    have h0 : s.heap.get? I = none := p₁.1.ext.none hI
    refine ⟨p₁.1.trans st, I, _, _, _, Sx, rfl, W, hs, fun a ha => ?_, fun a ha => ?_, fun g hg => hg.elim⟩
    · subst ha
      refine ⟨hI', ?_⟩
      rintro ((w | ⟨x, w⟩) | w)
      · obtain ⟨m, o, _, _, q, _⟩ := i.frame.ns; rw [← w, h0] at q; cases q
      · obtain ⟨_, o, q, _⟩ := i.frame.cells x a w; rw [h0] at q; cases q
      · obtain ⟨vs, l⟩ := i.there a w; have := l.some; rw [h0] at this; cases this
    · subst ha; exact ⟨h0, rfl⟩) fun _ _ x => x) fun _ _ x => x
theorem repAll_alloc {ok : Addr → Prop} {h : Heap} {vs : List Value} {ds : List D} (r : RepAll ok h vs ds) : RepAll (fun a => ok a ∧ (h.get? a).isSome = true) h vs ds := r.ext (base := h) .refl fun a q z => ⟨q, z⟩
theorem IterD.list {ds : List D} : IterD G n (.list ds) ds := fun ok A s E v target r k fr rp => by
  cases rp with
  | @list a vs _ o l rs =>
    have hne : a ≠ s.heap.objs.size := by obtain ⟨_, e, _⟩ := l; exact Nat.ne_of_lt (Heap.lt_size e)
    refine wpAny_pyIter_list l ?_
    have st : Stp G.base s { s with heap := s.heap.push { cls := .type "list_iterator", data := .fields #[.ref a, .int 0 0] } } := .push
    refine ⟨st, s.heap.objs.size, _, rfl, fresh_get, by rw [Heap.get?_push_size _ rfl]; rfl, Itr.of_walks (vs := vs) (ds' := ds) (Walks.list r.handled s.heap.objs.size a hne vs.toArray) (by rw [List.size_toArray, rs.length]) ?_ ?_ ?_,
      ⟨⟨_, Heap.get?_push_size _ rfl, rfl, rfl⟩, st.ext.list l⟩, ?_⟩
    · intro b hb
      rcases List.mem_cons.mp hb with rfl | hb
      · exact .inl rfl
      · rw [List.mem_singleton.mp hb]
        exact .inr ⟨⟨o, by obtain ⟨_, e, _⟩ := st.ext.list l; rw [e]; rfl⟩, fun i h q => .list q.2⟩
    · rintro i h ⟨⟨o', e, c, d⟩, _⟩
      exact ⟨o', _, e, c, by rw [d]; rfl, by decide⟩
    · intro i v d h hd hp rs'
      obtain ⟨u, e, rp⟩ := rs'.get hd
      have : vs[i]? = some v := by simpa using hp
      rw [this] at e; cases e; exact rp
    · exact repAll_alloc (rs.stp st)
/-- a text's signs -/
def signs (x : Str) : List D := x.cps.toList.map fun c => .str ⟨#[c]⟩
end
end Mine
end
section
open PySem PySem.W PyProof.Rows PySem.Calls
set_option maxRecDepth 100000
namespace Mine
/-- a def of the program by its place -/
def defAt (p : Program) (i : Nat) : DefRec := match p.main.body.drop i with
  | .FunctionDef name params body _ _ _ scope _ _ pos :: _ => ⟨name, params, body, scope, pos⟩
  | _ => ⟨⟨#[]⟩, ⟨[], [], none, [], [], none, []⟩, [], { kind := .function, names := [], isGenerator := false, isCoroutine := false, more := [] }, ⟨0, 0, 0, 0⟩⟩
/-- the frame of a def -/
structure FEnv (env : Env) (sc : Scope) : Prop where
  scope : env.scope = sc
  cells : ∀ x, sc.names.lookup x = some .cell → (env.cells.lookup x).isSome = true
section
variable {G : Gr} {n : Nat} {env : Env} {σ : St} {sc : Scope}
theorem FEnv.kind (F : FEnv env sc) {x : Str} {k : NameKind} (h : sc.names.lookup x = some k) : env.kindOf x = some k := by unfold Env.kindOf; rw [F.scope]; exact h
theorem FEnv.loc (F : FEnv env sc) {x : Str} (h : sc.names.lookup x = some .local) : Storable env x := .inl (F.kind h)
/-- the def stands in the ground -/
structure FnAt (G : Gr) (d : DefRec) (a : Addr) : Prop where
  name : G.mg d.name = some (.ref a)
  obj : ∃ o pm code doc, G.base.get? a = some o ∧ o.data = .func (docDef d.name d.params d.body d.scope pm code doc) ∧ G.base.CodeRec code d.name
theorem bindL_other (kd : Str → Option NameKind) {x : Str} : ∀ (bs : List (Str × Value)) (m : Str → Option Value), (∀ p ∈ bs, p.1 ≠ x) → bindL kd bs m x = m x
  | [], m, _ => rfl
  | (y, v) :: r, m, h => by
    unfold bindL
    rw [bindL_other kd r _ fun p hp => h p (.tail _ hp)]
    have : x ≠ y := fun e => h (y, v) (.head _) e.symm
    split <;> simp [this]
theorem bindC_other (kd : Str → Option NameKind) {x : Str} : ∀ (bs : List (Str × Value)) (m : Str → Option Value), (∀ p ∈ bs, p.1 ≠ x) → bindC kd bs m x = m x
  | [], m, _ => rfl
  | (y, v) :: r, m, h => by
    unfold bindC
    rw [bindC_other kd r _ fun p hp => h p (.tail _ hp)]
    have : x ≠ y := fun e => h (y, v) (.head _) e.symm
    split <;> simp [this]
theorem bindL_get (kd : Str → Option NameKind) {x : Str} {v : Value} (hk : kd x = some .local) : ∀ (bs : List (Str × Value)) (m : Str → Option Value), (bs.map (·.1)).Nodup → (x, v) ∈ bs → bindL kd bs m x = some v
  | (y, u) :: r, m, nd, h => by
    unfold bindL
    rw [List.map_cons, List.nodup_cons] at nd
    rcases List.mem_cons.mp h with e | h
    · cases e
      rw [bindL_other kd r _ fun p hp e => nd.1 (List.mem_map.mpr ⟨p, hp, e⟩), if_pos hk]; simp
    · exact bindL_get kd hk r _ nd.2 h
theorem bindC_get (kd : Str → Option NameKind) {x : Str} {v : Value} (hk : kd x = some .cell) : ∀ (bs : List (Str × Value)) (m : Str → Option Value), (bs.map (·.1)).Nodup → (x, v) ∈ bs → bindC kd bs m x = some v
  | (y, u) :: r, m, nd, h => by
    unfold bindC
    rw [List.map_cons, List.nodup_cons] at nd
    rcases List.mem_cons.mp h with e | h
    · cases e
      rw [bindC_other kd r _ fun p hp e => nd.1 (List.mem_map.mpr ⟨p, hp, e⟩), if_neg (by rw [hk]; decide)]; simp
    · exact bindC_get kd hk r _ nd.2 h
theorem repAll_zip {ok : Addr → Prop} {h : Heap} {x : Str} {d : D} : ∀ {xs : List Str} {vs : List Value} {ds : List D}, RepAll ok h vs ds → (xs.zip (ds.map Slot.val)).lookup x = some (.val d) → ∃ v, (x, v) ∈ xs.zip vs ∧ Rep ok h v d
  | [], _, _, _, q => by cases q
  | y :: ys, _, _, .nil, q => by cases q
  | y :: ys, _, _, .cons (v := v) a r, q => by
    rw [List.map_cons, List.zip_cons_cons, List.lookup_cons] at q
    cases e : x == y with
    | true => rw [e] at q; cases q; rw [beq_iff_eq.mp e]; exact ⟨v, List.mem_cons_self, a⟩
    | false =>
      rw [e] at q
      obtain ⟨u, m, rp⟩ := repAll_zip r q
      exact ⟨u, List.mem_cons_of_mem _ m, rp⟩
theorem owned_zip : ∀ (xs : List Str) (ds : List D), owned (xs.zip (ds.map Slot.val)) = []
  | [], _ => rfl
  | _ :: _, [] => rfl
  | x :: xs, d :: ds => by rw [List.map_cons, List.zip_cons_cons, owned_cons]; exact owned_zip xs ds
theorem lookup_zip_own {x : Str} {a : Addr} {es : List D} : ∀ (xs : List Str) (ds : List D), (xs.zip (ds.map Slot.val)).lookup x ≠ some (.own a es)
  | [], _ => nofun
  | _ :: _, [] => nofun
  | y :: ys, d :: ds => by
    rw [List.map_cons, List.zip_cons_cons, List.lookup_cons]
    cases x == y with
    | true => exact nofun
    | false => exact lookup_zip_own ys ds
/-- what a call of a def gives, by its body -/
theorem CallD.def {d : DefRec} {a : Addr} {ds : List D} {r : D} (F : FnAt G d a) (hds : d.params.args.length = ds.length)
    (hbind : ∀ pm code doc vs, vs.length = ds.length → bindArgs (docDef d.name d.params d.body d.scope pm code doc) ⟨vs, []⟩ = pure ((d.params.args.map (·.arg)).zip vs))
    (hkind : (d.params.args.all fun y => d.scope.names.lookup y.arg == some .local || d.scope.names.lookup y.arg == some .cell) = true) (hnd : (d.params.args.map (·.arg)).Nodup)
    (h : ∀ env, FEnv env d.scope → Ex G n env ((d.params.args.map (·.arg)).zip (ds.map Slot.val)) d.body fun fl _ => fl = .ret r)
    (hco : d.scope.isCoroutine = false) (hgen : d.scope.isGenerator = false) (hk : d.scope.kind = .function) : CallD G (n + 1) (.ref a) ds r := fun ok A s E vs rm k fr rs => by
  obtain ⟨o, pm, code, doc, ho, hd, hcd⟩ := F.obj
  refine wpAny_call (codeAny_call_cells (fd := docDef d.name d.params d.body d.scope pm code doc) (body := d.body) (vals := vs) (binds := (d.params.args.map (·.arg)).zip vs) (by have := rm.depth; omega) (k _ _ ho) hd (G.nolimit.keeps k) (hcd.keeps k) rfl (hbind _ _ _ _ rs.length) rfl ?_ (fun s₁ x => ?_) hco hgen hk)
  · intro p hp
    have hm : p.1 ∈ d.params.args.map (·.arg) := (List.of_mem_zip hp).1
    obtain ⟨y, hy, e⟩ := List.mem_map.mp hm
    have := List.all_eq_true.mp hkind y hy
    rw [e] at this
    exact kindsX (scope := d.scope) (binds := [(p.1, p.2)]) (by simpa using this) _ (p.1, p.2) (by simp)
  · generalize henv : callEnvC (docDef d.name d.params d.body d.scope pm code doc) s.heap.objs.size a = env at x ⊢
    have hsc : env.scope = d.scope := by rw [← henv]; rfl
    have hcs : env.cells = cellsFrom (s.heap.objs.size + 1) d.scope.names [] := by rw [← henv]; rfl
    have FE : FEnv env d.scope := ⟨hsc, fun y hy => by rw [hcs]; exact cellsFrom_some _ _ _ (.inl hy)⟩
    have hnoL : ∀ b, s.heap.objs.size ≤ b → s.heap.get? b = none := fun b hb => by
      cases q : s.heap.get? b with
      | none => rfl
      | some o => exact absurd (Nat.lt_of_lt_of_le (Heap.lt_size q) hb) (Nat.lt_irrefl _)
    have hfw : ∀ b, FrW env b → s.heap.get? b = none := fun b w => by
      rcases w with w | ⟨y, w⟩
      · exact hnoL b (w ▸ x.toInCall.fresh)
      · exact hnoL b (Nat.le_of_lt (Nat.lt_of_le_of_lt x.toInCall.fresh (x.above y b (mem_of_lookup w))))
    have hvl : ((d.params.args.map (·.arg)).zip vs).map (·.1) = d.params.args.map (·.arg) := by
      rw [List.map_fst_zip]; rw [List.length_map, hds, rs.length]; exact Nat.le_refl _
    have hnd' : (((d.params.args.map (·.arg)).zip vs).map (·.1)).Nodup := by rw [hvl]; exact hnd
    have st : Stp G.base s s₁ := by
      obtain ⟨h', tk, rfl, hkp⟩ := x.done
      exact .heap hkp
    have inv : Inv G.base ok env ((d.params.args.map (·.arg)).zip (ds.map Slot.val)) s₁.heap := by
      refine ⟨⟨by rw [hsc]; exact hk, ⟨_, x.toInCall.ns⟩, fun y c l => ⟨_, x.cell y c l⟩, x.apart, fun y c l => Nat.ne_of_gt (x.above y c (mem_of_lookup l)), by rw [← henv]; rfl, by rw [← henv]; rfl⟩,
        fun b w => ?_, fr.stp st.ext, fun y e l => ?_, fun y b es l => absurd l (lookup_zip_own _ _), fun b w => ?_, ?_⟩
      · rw [Wr, owned_zip] at w
        have := hfw b (w.elim id fun z => nomatch z)
        cases q : G.base.get? b with
        | none => rfl
        | some o => rw [k b o q] at this; cases this
      · obtain ⟨v, hm, rp⟩ := repAll_zip rs l
        refine ⟨v, ?_, (rp.stp st).weak fun b q => ⟨q, by rw [owned_zip]; simp⟩⟩
        have hy : y ∈ d.params.args.map (·.arg) := (List.of_mem_zip hm).1
        obtain ⟨z, hz, e⟩ := List.mem_map.mp hy
        have hkd := List.all_eq_true.mp hkind z hz
        rw [e] at hkd
        rcases Bool.or_eq_true_iff.mp hkd with q | q
        · have q' : env.kindOf y = some .local := FE.kind (by simpa using q)
          exact .inl ⟨q', _, x.toInCall.ns, bindL_get _ q' _ _ hnd' hm⟩
        · have q0 : d.scope.names.lookup y = some .cell := by simpa using q
          have q' : env.kindOf y = some .cell := FE.kind q0
          obtain ⟨c, hc⟩ := Option.isSome_iff_exists.mp (FE.cells y q0)
          refine .inr ⟨.inl q', c, hc, ?_⟩
          have := x.cell y c hc
          rw [bindC_get _ q' _ _ hnd' hm] at this
          exact this
      · rw [owned_zip] at w; cases w
      · rw [owned_zip]; exact List.nodup_nil
    refine wpAny_mono (h env FE ok _ s₁ (fun _ _ => False) rm.deeper (st.ext.base k) inv) (fun f s₂ q => ?_) fun _ _ x => x.elim
    obtain ⟨fl, σ', rfl, fi, _, mv, _, _⟩ := q
    cases f with
    | ret v =>
      refine ⟨?_, fi⟩
      have m2 : Mv G.base (FrW env) s s₂ := ((st.mv (W := FrW env))).trans mv fun b w => by rw [Wr, owned_zip] at w; exact .inl (w.elim id fun z => nomatch z)
      exact m2.stp hfw
    | _ => exact fi.elim
end
end Mine
end
section
open PySem PySem.W PyProof.Rows PySem.Calls
set_option maxRecDepth 100000
namespace Mine
section
variable {G : Gr} {n : Nat} {env : Env} {σ : St}
theorem BinD.add {x y : Int} : BinD G n .Add (.int x) (.int y) (.int (x + y)) := fun ok A s E va vb r k f ra rb => by
  cases ra; cases rb; exact P.add_int ⟨.tok, .int _ _⟩
theorem BinD.sub {x y : Int} : BinD G n .Sub (.int x) (.int y) (.int (x - y)) := fun ok A s E va vb r k f ra rb => by
  cases ra; cases rb; exact P.sub_int ⟨.tok, .int _ _⟩
theorem BinD.mod {x y : Int} (h : y ≠ 0) : BinD G n .Mod (.int x) (.int y) (.int (x.fmod y)) := fun ok A s E va vb r k f ra rb => by
  cases ra; cases rb; exact mod_int' h ⟨.tok, .int _ _⟩
theorem CmpD.eq_int {x y : Int} : CmpD G n .Eq (.int x) (.int y) (x == y) := fun ok A s E va vb r k f ra rb => by
  cases ra; cases rb; exact P.eq_int ⟨.refl, rfl⟩
theorem CmpD.ne_int {x y : Int} : CmpD G n .NotEq (.int x) (.int y) (x != y) := fun ok A s E va vb r k f ra rb => by
  cases ra; cases rb; exact P.ne_int ⟨.refl, rfl⟩
theorem CmpD.lt_int {x y : Int} : CmpD G n .Lt (.int x) (.int y) (decide (x < y)) := fun ok A s E va vb r k f ra rb => by
  cases ra; cases rb; exact P.lt_int ⟨.refl, rfl⟩
theorem CmpD.gt_int {x y : Int} : CmpD G n .Gt (.int x) (.int y) (decide (x > y)) := fun ok A s E va vb r k f ra rb => by
  cases ra; cases rb; exact P.gt_int ⟨.refl, rfl⟩
theorem CmpD.ge_int {x y : Int} : CmpD G n .GtE (.int x) (.int y) (decide (x ≥ y)) := fun ok A s E va vb r k f ra rb => by
  cases ra; cases rb; exact P.ge_int ⟨.refl, rfl⟩
theorem TruD.bool {b : Bool} : TruD G n (.bool b) b := fun ok A s E v r k f rv => by
  cases rv; exact wpAny_truthy_bool ⟨.refl, rfl⟩
theorem Ev.neg {e : Expr} {p : Pos} {x : Int} (h : Ev G n env σ e (.int x)) : Ev G n env σ (.UnaryOp .USub e p) (.int (-x)) := fun ok A s E r k i =>
  UnaryOp_ (wpAny_mono (h ok A s E r k i) (fun v s₁ p₁ => by
    obtain ⟨st, rp⟩ := p₁; cases rp
    exact P.neg_int ⟨st.trans .tok, .int _ _⟩) fun _ _ x => x)
theorem cps_eq_iff {x y : Str} : (x.cps.toList == y.cps.toList) = decide (x = y) := by
  obtain ⟨⟨x⟩⟩ := x; obtain ⟨⟨y⟩⟩ := y
  by_cases h : x = y
  · subst h; simp
  · have : ¬ ((⟨⟨x⟩⟩ : Str) = ⟨⟨y⟩⟩) := fun e => h (by injection e with e; injection e)
    simp [h]
theorem CmpD.eq_str {x y : Str} : CmpD G n .Eq (.str x) (.str y) (decide (x = y)) := fun ok A s E va vb r k f ra rb => by
  cases ra; cases rb; exact P.eq_str (by rw [cps_eq_iff]; exact ⟨.refl, rfl⟩)
theorem CmpD.ne_str {x y : Str} : CmpD G n .NotEq (.str x) (.str y) (!decide (x = y)) := fun ok A s E va vb r k f ra rb => by
  cases ra; cases rb; exact P.ne_str (by rw [bne, cps_eq_iff]; exact ⟨.refl, rfl⟩)
theorem BinD.add_str {x y : Str} (h : x.length + y.length ≤ sizeLine) : BinD G n .Add (.str x) (.str y) (.str (x ++ y)) := fun ok A s E va vb r k f ra rb => by
  cases ra; cases rb
  refine P.add_str ?_
  have hl : ∀ z : Str, (z.length == 0) = true → z = Str.empty := fun z hz => by
    obtain ⟨⟨l⟩⟩ := z
    cases l with
    | nil => rfl
    | cons a b => cases hz
  split
  · rename_i h0
    rw [hl x h0]
    exact ⟨.refl, by rw [show Str.empty ++ y = y from by obtain ⟨⟨l⟩⟩ := y; exact congrArg Str.mk (by simp [Str.empty])]; exact .str _ _⟩
  · split
    · rename_i h0
      rw [hl y h0]
      exact ⟨.refl, by rw [show x ++ Str.empty = x from by obtain ⟨⟨l⟩⟩ := x; exact congrArg Str.mk (by simp [Str.empty])]; exact .str _ _⟩
    · exact ⟨by rw [show (x ++ y).length = x.length + y.length from Array.size_append ..]; exact h, .tok, .str _ _⟩
theorem CallD.chr {i : Int} (h0 : 0 ≤ i) (h1 : i ≤ 1114111) : CallD G n (.builtin "chr") [.int i] (.str ⟨#[i.toNat]⟩) := fun ok A s E vs r k f rs => by
  cases rs with
  | cons a t => cases t; cases a; exact chr_of_range h0 h1 ⟨.tok, .str _ _⟩
theorem CallD.len_list {ds : List D} (h : ds.length < 2 ^ 62) : CallD G n (.builtin "len") [.list ds] (.int ds.length) := fun ok A s E vs r k f rs => by
  cases rs with
  | cons a t =>
    cases t
    cases a with
    | list o l rs => exact PyProof.Rows.len_list l (by rw [List.size_toArray, rs.length]; omega) ⟨.tok, by rw [List.size_toArray, rs.length]; exact .int _ _⟩
theorem CallD.len_tuple {ds : List D} (h : ds.length < 2 ^ 62) : CallD G n (.builtin "len") [.tuple ds] (.int ds.length) := fun ok A s E vs r k f rs => by
  cases rs with
  | cons a t =>
    cases t
    cases a with
    | tuple o l rs => exact PyProof.Rows.len_tuple l (by rw [List.size_toArray, rs.length]; omega) ⟨.tok, by rw [List.size_toArray, rs.length]; exact .int _ _⟩
theorem IdxD.list {ds : List D} {i : Int} {d : D} (h0 : 0 ≤ i) (h1 : i < 2 ^ 62) (h : ds[i.toNat]? = some d) : IdxD G n (.list ds) (.int i) d := fun ok A s E vo vi r k f ro ri => by
  cases ri
  cases ro with
  | list o l rs =>
    obtain ⟨v, hv, rv⟩ := rs.get h
    exact wpAny_getItem_list l h0 (by omega) (by simpa using hv) ⟨.refl, rv⟩
theorem typeIs_list {ok : Addr → Prop} {s : Shared} {v : Value} {ds : List D} (r : Rep ok s.heap v (.list ds)) : s.TypeIs v "list" := by
  cases r with
  | list o l rs => exact l.typeIs
theorem typeIs_str' {ok : Addr → Prop} {s : Shared} {v : Value} {x : Str} (r : Rep ok s.heap v (.str x)) : s.TypeIs v "str" := by
  cases r; exact typeIs_str _ _ _
theorem Ev.item {o i : Expr} {p : Pos} {ds : List D} {di d : D} (ho : Ev G n env σ o (.list ds)) (hi : Ev G n env σ i di) (hx : IdxD G n (.list ds) di d)
    (hs : ∀ a b, ∃ ops, subscripted i false a b = operate ops (getItem a b) := by intro a b; first | exact ⟨[a, b], rfl⟩ | exact ⟨[b, a], rfl⟩) : Ev G n env σ (.Subscript o i p) d :=
  .sub ho hi hx (fun _ _ _ r => typeIs_list r) slot_list_getitem.lookup hs
theorem Ev.itemS {o i : Expr} {p : Pos} {x : Str} {di d : D} (ho : Ev G n env σ o (.str x)) (hi : Ev G n env σ i di) (hx : IdxD G n (.str x) di d)
    (hs : ∀ a b, ∃ ops, subscripted i false a b = operate ops (getItem a b) := by intro a b; first | exact ⟨[a, b], rfl⟩ | exact ⟨[b, a], rfl⟩) : Ev G n env σ (.Subscript o i p) d :=
  .sub ho hi hx (fun _ _ _ r => typeIs_str' r) F.slot_str_getitem.lookup hs
end
end Mine
end
section
open PySem PySem.W PyProof.Rows PySem.Calls
set_option maxRecDepth 100000
namespace Mine
mutual
def D.py : D → PyData
  | .none => .none
  | .bool b => .bool b
  | .int i => .int i
  | .str x => .str x
  | .tuple ds => .tuple (D.pys ds)
  | .list ds => .list (D.pys ds)
  | _ => .dict []
def D.pys : List D → List PyData
  | [] => []
  | d :: ds => D.py d :: D.pys ds
end
mutual
/-- none, ints, texts, and rows of such, to a depth -/
def D.data : Nat → D → Bool
  | _, .none => true
  | _, .bool _ => true
  | _, .int _ => true
  | _, .str x => PyData.strOk x
  | n + 1, .tuple ds => D.datas n ds
  | n + 1, .list ds => D.datas n ds
  | _, _ => false
def D.datas : Nat → List D → Bool
  | _, [] => true
  | n, d :: ds => D.data n d && D.datas n ds
end
mutual
theorem rep_reads {ok : Addr → Prop} {h : Heap} : ∀ {v : Value} {d : D} (n : Nat), Rep ok h v d → D.data n d = true → ∃ as, Reads h v d.py as
  | _, _, _, .none, _ => ⟨_, Reads.none⟩
  | _, _, _, .bool b, _ => ⟨_, Reads.bool b⟩
  | _, _, _, .int i t, _ => ⟨_, Reads.int i t⟩
  | _, _, _, .str x t, _ => ⟨_, Reads.str x t⟩
  | _, _, n, .bytes _ _, hk => by cases n <;> simp [D.data] at hk
  | _, _, n, .raw _, hk => by cases n <;> simp [D.data] at hk
  | _, _, n, .slice _ _ _ _ _ _ _, hk => by cases n <;> simp [D.data] at hk
  | _, _, n, .rng _ _, hk => by cases n <;> simp [D.data] at hk
  | _, _, 0, .tuple _ _ _, hk => by simp [D.data] at hk
  | _, _, 0, .list _ _ _, hk => by simp [D.data] at hk
  | _, _, n + 1, .tuple _ l r, hk => by
    obtain ⟨as, q⟩ := repAll_reads n r (by simpa [D.data] using hk)
    obtain ⟨o, e, c, k, d⟩ := l
    rw [D.py]
    exact ⟨as, Reads.tuple e c d (by simpa using q)⟩
  | _, _, n + 1, .list _ l r, hk => by
    obtain ⟨as, q⟩ := repAll_reads n r (by simpa [D.data] using hk)
    obtain ⟨o, e, c, k, d⟩ := l
    rw [D.py]
    exact ⟨_, Reads.list e c d (by simpa using q)⟩
theorem repAll_reads {ok : Addr → Prop} {h : Heap} : ∀ {vs : List Value} {ds : List D} (n : Nat), RepAll ok h vs ds → D.datas n ds = true → ∃ as, ReadsAll h vs (D.pys ds) as
  | _, _, _, .nil, _ => ⟨_, ReadsAll.nil⟩
  | _, _, n, .cons a r, hk => by
    rw [D.datas, Bool.and_eq_true] at hk
    obtain ⟨as, q⟩ := rep_reads n a hk.1
    obtain ⟨bs, p⟩ := repAll_reads n r hk.2
    rw [D.pys]
    exact ⟨_, ReadsAll.cons q p⟩
end
mutual
theorem data_lay : ∀ (n : Nat) (d : D), D.data n d = true → d.py.canLay0 = true ∧ d.py.depth ≤ n
  | _, .none, _ => by simp [D.py, PyData.canLay0, PyData.depth]
  | _, .bool _, _ => by simp [D.py, PyData.canLay0, PyData.depth]
  | _, .int _, _ => by simp [D.py, PyData.canLay0, PyData.depth]
  | n, .str x, h => by
    have : PyData.strOk x = true := by cases n <;> simpa [D.data] using h
    simp [D.py, PyData.canLay0, PyData.depth, this]
  | n, .bytes _, h => by cases n <;> simp [D.data] at h
  | n, .raw _, h => by cases n <;> simp [D.data] at h
  | n, .slice _ _ _, h => by cases n <;> simp [D.data] at h
  | n, .rng _ _, h => by cases n <;> simp [D.data] at h
  | 0, .tuple _, h => by simp [D.data] at h
  | 0, .list _, h => by simp [D.data] at h
  | n + 1, .tuple ds, h => by
    have q := datas_lay n ds (by simpa [D.data] using h)
    simp only [D.py, PyData.canLay0, PyData.depth, q.1, true_and]
    have := q.2; omega
  | n + 1, .list ds, h => by
    have q := datas_lay n ds (by simpa [D.data] using h)
    simp only [D.py, PyData.canLay0, PyData.depth, q.1, true_and]
    have := q.2; omega
theorem datas_lay : ∀ (n : Nat) (ds : List D), D.datas n ds = true → PyData.canLayAll0 (D.pys ds) = true ∧ PyData.depthAll (D.pys ds) ≤ n
  | _, [], _ => by simp [D.pys, PyData.canLayAll0, PyData.depthAll]
  | n, d :: ds, h => by
    rw [D.datas, Bool.and_eq_true] at h
    have q := data_lay n d h.1
    have p := datas_lay n ds h.2
    simp only [D.pys, PyData.canLayAll0, PyData.depthAll, q.1, p.1, Bool.and_self, true_and]
    have := q.2; have := p.2; omega
end
/-- Python's == -/
def D.eqb (d e : D) : Bool := PyData.eqv d.py e.py
theorem eqb_refl {d : D} {n : Nat} (h : d.data n = true) : d.eqb d = true := SeqAt.eqv_refl d.py (data_lay n d h).1
section
variable {G : Gr} {n : Nat} {env : Env} {σ : St}
theorem CmpD.eq {d e : D} {k : Nat} (hd : d.data k = true) (he : e.data k = true) (hk : k ≤ 400) : CmpD G n .Eq d e (d.eqb e) := fun ok A s E va vb r kb f ra rb => by
  obtain ⟨as, qa⟩ := rep_reads k ra hd
  obtain ⟨bs, qb⟩ := rep_reads k rb he
  have la := data_lay k d hd
  have lb := data_lay k e he
  exact SeqAt.compareEq_reads qa qb la.1 lb.1 (by have := r.units; have := la.2; have := lb.2; omega) ⟨.refl, rfl⟩
theorem CmpD.ne {d e : D} {k : Nat} (hd : d.data k = true) (he : e.data k = true) (hk : k ≤ 400) : CmpD G n .NotEq d e (!d.eqb e) := fun ok A s E va vb r kb f ra rb => by
  obtain ⟨as, qa⟩ := rep_reads k ra hd
  obtain ⟨bs, qb⟩ := rep_reads k rb he
  have la := data_lay k d hd
  have lb := data_lay k e he
  exact SeqAt.compareNe_reads qa qb la.1 lb.1 (by have := r.units; have := la.2; have := lb.2; omega) ⟨.refl, rfl⟩
def D.part : D → Option Int
  | .int i => some i
  | _ => Option.none
def D.isPart : D → Bool
  | .none | .int _ => true
  | _ => false
theorem rep_part {ok : Addr → Prop} {h : Heap} {v : Value} {d : D} (r : Rep ok h v d) (hp : d.isPart = true) : IsPart v d.part := by
  cases r <;> first | exact IsPart.none | exact IsPart.int _ _ | cases hp
/-- the items that a slice takes -/
def pickD {α : Type} (ds : List α) (lo hi st : Option Int) : List α :=
  (sliceRange (sliceBounds lo hi st ds.length).1 (sliceBounds lo hi st ds.length).2.1 (sliceBounds lo hi st ds.length).2.2).filterMap (ds[·]?)
theorem repAll_filterMap {ok : Addr → Prop} {h : Heap} {vs : List Value} {ds : List D} (r : RepAll ok h vs ds) : ∀ js : List Nat, RepAll ok h (js.filterMap (vs[·]?)) (js.filterMap (ds[·]?))
  | [] => .nil
  | j :: js => by
    have ih := repAll_filterMap r js
    rw [List.filterMap_cons, List.filterMap_cons]
    cases hj : ds[j]? with
    | none =>
      have : vs[j]? = none := by
        rw [List.getElem?_eq_none_iff] at hj ⊢; rw [r.length]; exact hj
      rw [this]; exact ih
    | some d =>
      obtain ⟨v, hv, rp⟩ := r.get hj
      rw [hv]; exact .cons rp ih
theorem pick_rep {ok : Addr → Prop} {h : Heap} {vs : List Value} {ds : List D} (r : RepAll ok h vs ds) (lo hi st : Option Int) : RepAll ok h (slicePick vs.toArray lo hi st).toList (pickD ds lo hi st) := by
  unfold slicePick pickD
  rw [List.size_toArray, r.length]
  simpa using repAll_filterMap r _
theorem IdxD.slice {ds : List D} {l u st : D} (hl : l.isPart = true) (hu : u.isPart = true) (hs : st.isPart = true) (h0 : st.part ≠ some 0) (hz : ds.length ≤ sizeLine) :
    IdxD G n (.list ds) (.slice l u st) (.list (pickD ds l.part u.part st.part)) := fun ok A s E vo vi r k f ro ri => by
  cases ri with
  | slice oi ei ci di r1 r2 r3 =>
    cases ro with
    | @list a ws _ o lst rs =>
      refine wpAny_getItem_list_slice lst ⟨_, ei, ci, di⟩ (rep_part r1 hl) (rep_part r2 hu) (rep_part r3 hs) h0 ?_ (by rw [List.size_toArray, rs.length]; exact hz)
      have sp : Stp G.base s { s with heap := s.heap.push { cls := .type "list", data := .seq (slicePick ws.toArray l.part u.part st.part) } } := .push
      exact ⟨sp, .list (f _ fresh_get) ⟨_, Heap.get?_push_size _ rfl, rfl, 0, by simp⟩ ((pick_rep rs _ _ _).stp sp)⟩
end
end Mine
end
section
open PySem PySem.W PyProof.Rows PySem.Calls
set_option maxRecDepth 100000
namespace Mine
section
variable {G : Gr} {n : Nat} {env : Env} {σ : St}
theorem pickD_length_le {α : Type} (ds : List α) (lo hi st : Option Int) : (pickD ds lo hi st).length ≤ ds.length := by
  unfold pickD
  refine Nat.le_trans (List.length_filterMap_le _ _) (sliceRange_length_le _ _ _ _ (fun hc => ?_) fun hc => ?_)
  · simp only [sliceBounds] at hc ⊢
    simp only [hc, if_true]
    constructor
    · cases lo with
      | none => simp
      | some i => dsimp only; omega
    · cases hi with
      | none => simp
      | some i => dsimp only; omega
  · simp only [sliceBounds] at hc ⊢
    simp only [hc, if_false]
    constructor
    · cases lo with
      | none => simp
      | some i => dsimp only; omega
    · cases hi with
      | none => simp
      | some i => dsimp only; omega
theorem filterMap_run {α : Type} (l : List α) (a k : Nat) : ((List.range k).map (a + ·)).filterMap (l[·]?) = (l.drop a).take k := by
  induction k with
  | zero => simp
  | succ k ih =>
    rw [List.range_succ, List.map_append, List.filterMap_append, ih, List.take_add_one]
    congr 1
    simp only [List.map_cons, List.map_nil, List.filterMap_cons, List.filterMap_nil, List.getElem?_drop]
    cases l[a + k]? <;> rfl
theorem pickD_plain {α : Type} (ds : List α) (lo hi : Option Int) :
    pickD ds lo hi none = (ds.drop (lo.elim 0 (clipAt ds.length))).take (hi.elim ds.length (clipAt ds.length) - lo.elim 0 (clipAt ds.length)) := by
  unfold pickD
  rw [sliceBounds_plain]
  simp only [sliceRange_one, filterMap_run]
theorem CallD.range {m : Int} : CallD G n (.type "range") [.int m] (.rng 0 m) := fun ok A s E vs r k f rs => by
  cases rs with
  | cons a rs =>
    cases rs; cases a
    exact call_range_1 ⟨.push, .rng (f _ fresh_get) (Heap.get?_push_size _ rfl)⟩
def rngList (lo hi : Int) : List D := (List.range (hi - lo).toNat).map fun i => .int (lo + (i : Nat))
theorem IterD.rng {lo hi : Int} (h1 : -(2 ^ 62) ≤ lo) (h2 : lo < 2 ^ 62) (h3 : -(2 ^ 62) ≤ hi) (h4 : hi < 2 ^ 62) : IterD G n (.rng lo hi) (rngList lo hi) := fun ok A s E v target r k f rp => by
  cases rp with
  | rng o hr =>
    refine wpAny_pyIter_range hr (small_one h1 h2 h3 h4) ?_
    have hsz : Builtin.Range.rangeSize lo hi 1 = (((hi - lo).toNat : Nat) : Int) := by rw [rangeSize_one]; split <;> omega
    refine ⟨.push, s.heap.objs.size, _, rfl, fresh_get, by rw [Heap.get?_push_size _ rfl]; rfl, Itr.of_walks (vs := []) (ds' := []) (Walks.range r.handled s.heap.objs.size lo 1 (hi - lo).toNat) (by simp [rngList]) (fun b hb => .inl (List.mem_singleton.mp hb)) ?_ ?_, ⟨?_, .nil⟩⟩
    · intro i h q
      exact ⟨_, "range_iterator", q, rfl, rfl, by decide⟩
    · rintro i v d h hd ⟨t, rfl⟩ _
      simp only [rngList, List.getElem?_map, Option.map_eq_some_iff] at hd
      obtain ⟨j, hj, rfl⟩ := hd
      have : j = i := by
        rw [List.getElem?_range] at hj
        · exact (Option.some.inj hj).symm
        · have := (List.getElem?_eq_some_iff.mp hj).1; simpa using this
      rw [this, Int.mul_one]; exact .int _ _
    · show IsRangeIter _ _ _ _ _
      rw [← hsz]
      have := Heap.get?_push_size s.heap (o := { cls := .type "range_iterator", data := .fields #[rawInt lo, rawInt (Builtin.Range.rangeSize lo hi 1), rawInt 1] }) rfl
      simpa [IsRangeIter] using this
end
end Mine
end
section
open PySem PySem.W PyProof.Rows PySem.Calls
set_option maxRecDepth 100000
namespace Mine
section
variable {G : Gr} {n : Nat} {env : Env} {σ : St} {sc : Scope}
theorem closureFor_is (scope : Scope) (h : ∀ p ∈ scope.names, p.2 = .free → (env.cells.lookup p.1).isSome = true) :
    ∃ cl, closureFor scope env = pure cl ∧ (∀ y c, (y, c) ∈ cl → env.cells.lookup y = some c ∧ (y, NameKind.free) ∈ scope.names) ∧ (∀ p ∈ scope.names, p.2 = .free → cl.lookup p.1 = env.cells.lookup p.1) ∧ cl.map (·.1) = ((scope.names.filter (·.2 == .free)).map (·.1)).reverse := by
  have go : ∀ (f : Str × NameKind → List (Str × Addr) → Sem (ForInStep (List (Str × Addr)))) (hf : ∀ y k cs, f (y, k) cs = if k == NameKind.free then (do let a ← cellOf env y; pure (ForInStep.yield ((y, a) :: cs))) else pure (ForInStep.yield cs))
      (names : List (Str × NameKind)) (acc : List (Str × Addr)), (∀ p ∈ names, p.2 = .free → (env.cells.lookup p.1).isSome = true) → (∀ y c, (y, c) ∈ acc → env.cells.lookup y = some c) →
      ∃ cl, (forIn names acc f) = pure cl ∧
        (∀ y c, (y, c) ∈ cl → (y, c) ∈ acc ∨ (env.cells.lookup y = some c ∧ (y, NameKind.free) ∈ names)) ∧ (∀ q ∈ acc, q ∈ cl) ∧ (∀ p ∈ names, p.2 = .free → ∃ c, (p.1, c) ∈ cl) ∧ cl.map (·.1) = ((names.filter (·.2 == .free)).map (·.1)).reverse ++ acc.map (·.1) := by
    intro f hf names
    induction names with
    | nil => intro acc _ _; exact ⟨acc, by rw [List.forIn_nil], fun y c m => .inl m, fun _ q => q, (fun p hp => nomatch hp), by simp⟩
    | cons x r ih =>
      intro acc hn ha
      obtain ⟨y, k⟩ := x
      rw [List.forIn_cons, hf]
      by_cases hk : k = .free
      · subst hk
        obtain ⟨c, hc⟩ := Option.isSome_iff_exists.mp (hn (y, .free) (.head _) rfl)
        obtain ⟨cl, e, h1, h2, h3, h4⟩ := ih ((y, c) :: acc) (fun p hp => hn p (.tail _ hp)) (fun z d m => by
          rcases List.mem_cons.mp m with q | q
          · cases q; exact hc
          · exact ha z d q)
        refine ⟨cl, ?_, fun z d m => ?_, fun q hq => h2 q (.tail _ hq), fun p hp hfr => ?_, by rw [h4]; simp⟩
        · have : cellOf env y = pure c := by unfold cellOf; rw [hc]
          simp only [beq_self_eq_true, if_true, this, pure_bind]
          exact e
        · rcases h1 z d m with q | q
          · rcases List.mem_cons.mp q with q | q
            · cases q; exact .inr ⟨hc, .head _⟩
            · exact .inl q
          · exact .inr ⟨q.1, .tail _ q.2⟩
        · rcases List.mem_cons.mp hp with q | q
          · subst q; exact ⟨c, h2 _ (.head _)⟩
          · exact h3 p q hfr
      · obtain ⟨cl, e, h1, h2, h3, h4⟩ := ih acc (fun p hp => hn p (.tail _ hp)) ha
        have hb : (k == NameKind.free) = false := by simpa using hk
        refine ⟨cl, ?_, fun z d m => (h1 z d m).imp id fun q => ⟨q.1, .tail _ q.2⟩, h2, fun p hp hfr => ?_, by rw [h4]; simp [hk]⟩
        · simp only [hb, Bool.false_eq_true, if_false, pure_bind]
          exact e
        · rcases List.mem_cons.mp hp with q | q
          · subst q; exact absurd hfr hk
          · exact h3 p q hfr
  have key : ∃ cl, closureFor scope env = pure cl ∧ (∀ y c, (y, c) ∈ cl → (y, c) ∈ ([] : List (Str × Addr)) ∨ (env.cells.lookup y = some c ∧ (y, NameKind.free) ∈ scope.names)) ∧ (∀ p ∈ scope.names, p.2 = .free → ∃ c, (p.1, c) ∈ cl) ∧ cl.map (·.1) = ((scope.names.filter (·.2 == .free)).map (·.1)).reverse := by
    obtain ⟨cl, e, h1, _, h3, h4⟩ := go (fun x cs => match x with
      | (name, kind) => if kind == NameKind.free then (do let a ← cellOf env name; pure (ForInStep.yield ((name, a) :: cs))) else pure (ForInStep.yield cs)) (fun y k cs => rfl) scope.names [] h (fun y c m => nomatch m)
    have e0 : closureFor scope env = (forIn scope.names ([] : List (Str × Addr)) (fun x cs => match x with
      | (name, kind) => if kind == NameKind.free then (do let a ← cellOf env name; pure (ForInStep.yield ((name, a) :: cs))) else pure (ForInStep.yield cs)) >>= fun cs => pure cs) := rfl
    exact ⟨cl, by rw [e0, e]; rfl, h1, h3, by simpa using h4⟩
  obtain ⟨cl, e, h1, h3, h4⟩ := key
  have h1' : ∀ y c, (y, c) ∈ cl → env.cells.lookup y = some c ∧ (y, NameKind.free) ∈ scope.names := fun y c m => (h1 y c m).elim (fun q => nomatch q) id
  refine ⟨cl, e, h1', fun p hp hf => ?_, h4⟩
  · obtain ⟨c, hc⟩ := h3 p hp hf
    have e1 := (h1' _ _ hc).1
    rw [e1]
    -- the first entry under that name says the same
    have : ∀ l : List (Str × Addr), (∀ y c, (y, c) ∈ l → env.cells.lookup y = some c) → (p.1, c) ∈ l → l.lookup p.1 = some c := by
      intro l
      induction l with
      | nil => intro _ m; cases m
      | cons q r ih =>
        intro hl m
        obtain ⟨y, d⟩ := q
        rw [List.lookup_cons]
        cases e3 : p.1 == y with
        | true =>
          have := hl y d (.head _)
          rw [← beq_iff_eq.mp e3, e1] at this; exact this.symm
        | false =>
          rcases List.mem_cons.mp m with q | q
          · cases q; simp at e3
          · exact ih (fun y c m => hl y c (.tail _ m)) q
    exact this cl (fun y c m => (h1' y c m).1) hc
/-- what the frame of a comprehension knows of its names -/
structure CEnv (cenv : Env) (scope : Scope) : Prop where
  kind : ∀ x k, scope.names.lookup x = some k → k ≠ .free → cenv.kindOf x = some k
theorem CEnv.loc {cenv : Env} {scope : Scope} (C : CEnv cenv scope) {x : Str} (h : scope.names.lookup x = some .local) : cenv.kindOf x = some .local := C.kind x _ h (by decide)
theorem CEnv.glob {cenv : Env} {scope : Scope} (C : CEnv cenv scope) {x : Str} (h : scope.names.lookup x = some .globalImplicit) : cenv.kindOf x = some .globalImplicit := C.kind x _ h (by decide)
theorem lookup_relabel {env : Env} : ∀ {names : List (Str × NameKind)} {x : Str} {k : NameKind}, names.lookup x = some k →
    (names.map fun (n, k) => if (k == NameKind.free && env.scope.kind == .function && env.kindOf n == some .cell) then (n, NameKind.cell) else (n, k)).lookup x = some k ∨
    (k = .free ∧ (names.map fun (n, k) => if (k == NameKind.free && env.scope.kind == .function && env.kindOf n == some .cell) then (n, NameKind.cell) else (n, k)).lookup x = some .cell)
  | [], _, _, h => by simp at h
  | (n, k') :: r, x, k, h => by
    have ih := @lookup_relabel env r x k
    rw [List.map_cons]
    cases hx : x == n with
    | true =>
      rw [List.lookup_cons, hx] at h
      cases h
      by_cases hc : (k' == NameKind.free && env.scope.kind == .function && env.kindOf n == some .cell) = true
      · refine .inr ⟨by simp only [Bool.and_eq_true] at hc; exact beq_iff_eq.mp hc.1.1, ?_⟩
        dsimp only; rw [if_pos hc, List.lookup_cons, hx]
      · refine .inl ?_
        dsimp only; rw [if_neg hc, List.lookup_cons, hx]
    | false =>
      rw [List.lookup_cons, hx] at h
      dsimp only at ih ⊢
      by_cases hc : (k' == NameKind.free && env.scope.kind == .function && env.kindOf n == some .cell) = true
      · rw [if_pos hc, List.lookup_cons, hx]; exact ih h
      · rw [if_neg hc, List.lookup_cons, hx]; exact ih h
/-- a comprehension's target takes a value: its own names alone -/
def AssC (G : Gr) (n : Nat) (cenv : Env) (t : Expr) (d : D) (f : St → St) : Prop := ∀ σ ok A s E v, Room n A → G.base.StaysIn s.heap → Inv G.base ok cenv σ s.heap → owned σ = [] → Rep (okO ok σ) s.heap v d →
  wpAny G.M A (assign t cenv v) (fun _ s' => Inv G.base ok cenv (f σ) s'.heap ∧ Mv G.base (· = cenv.locals) s s' ∧ owned (f σ) = []) E s
theorem owned_setS_nil {x : Str} {d : D} (h : owned σ = []) : owned (setS x (.val d) σ) = [] := List.eq_nil_iff_forall_not_mem.mpr fun a m => by have := owned_setS_val m; rw [h] at this; cases this
theorem wpAny_storeL {M : Model} {A : Around} {E : Value → Shared → Prop} {s : Shared} {base : Heap} {x : Str} {v : Value} {Q : Unit → Shared → Prop} (F : Frame env s.heap) (hk : env.kindOf x = some .local)
    (h : ∀ s', Holds env s'.heap x v → (∀ y u, y ≠ x → Holds env s.heap y u → Holds env s'.heap y u) → Frame env s'.heap → Mv base (· = env.locals) s s' → Q () s') : wpAny M A (storeName env x v) Q E s := by
  obtain ⟨m, hn⟩ := F.ns
  refine wpAny_storeName_local hk hn (fun h' hn' hs' => ?_) (by rw [F.kind]; rfl)
  have hL : ∃ o, h'.get? env.locals = some o := let ⟨o, _, _, q, _⟩ := hn'; ⟨o, q⟩
  have keep : ∀ b, b ≠ env.locals → h'.get? b = s.heap.get? b := fun b hb => hs'.2 b hb
  refine h _ (.inl ⟨hk, _, hn', by simp⟩) (fun y u hy q => ?_) ⟨F.kind, ⟨_, hn'⟩, fun z c l => ?_, F.apart, F.away, F.glob, F.blt⟩ ⟨fun b o w e => ⟨o, (keep b w).trans e, rfl, rfl, fun _ => rfl⟩, fun b e => ?_, rfl, .refl⟩
  · rcases q with ⟨k, m', n', r⟩ | ⟨k, c, l, r⟩
    · refine .inl ⟨k, _, hn', ?_⟩
      have : m' y = m y := by
        obtain ⟨o, es, ep, q1, q2, _, q3⟩ := n'
        obtain ⟨o₂, es₂, ep₂, p1, p2, _, p3⟩ := hn
        rw [q1] at p1; cases p1; rw [q2] at p2; cases p2
        rw [← q3, ← p3]
      simp [hy, ← this, r]
    · exact .inr ⟨k, c, l, r.sameBut hs' (F.away y c l)⟩
  · obtain ⟨u, q⟩ := F.cells z c l
    exact ⟨u, q.sameBut hs' (F.away z c l)⟩
  · by_cases hb : b = env.locals
    · obtain ⟨o, q⟩ := hL
      have e' : h'.get? b = none := e
      rw [hb, q] at e'; cases e'
    · rw [← keep b hb]; exact e
theorem AssC.name {cenv : Env} {x : Str} {p : Pos} {d : D} (hk : cenv.kindOf x = some .local) : AssC G n cenv (.Name x p) d (setS x (.val d)) := fun σ ok A s E v r k i ho rp =>
  wpAny_assign_Name (wpAny_storeL (base := G.base) i.frame hk fun s' hv hot F m => ⟨i.set_val (m.weak fun _ w => .inl w) F hv hot rp, m, owned_setS_nil ho⟩)
/-- the names that a comprehension takes over -/
def Cap (env : Env) (σ : St) (scope : Scope) : St → Prop
  | [] => True
  | (x, .val d) :: r => (σ.lookup x = some (.val d) ∧ scope.names.lookup x = some .free ∧ env.kindOf x = some .cell) ∧ Cap env σ scope r
  | (_, .own _ _) :: _ => False
theorem Cap.get {scope : Scope} {x : Str} {d : D} : ∀ {σc : St}, Cap env σ scope σc → σc.lookup x = some (.val d) → σ.lookup x = some (.val d) ∧ scope.names.lookup x = some .free ∧ env.kindOf x = some .cell
  | (y, .val e) :: r, h, l => by
    rw [List.lookup_cons] at l
    cases q : x == y with
    | true => rw [q] at l; cases l; rw [beq_iff_eq.mp q]; exact h.1
    | false => rw [q] at l; exact Cap.get h.2 l
theorem Cap.owned {scope : Scope} : ∀ {σc : St}, Cap env σ scope σc → Mine.owned σc = []
  | [], _ => rfl
  | (y, .val e) :: r, h => Cap.owned (σc := r) h.2
  | (y, .own _ _) :: r, h => h.elim
theorem Cap.noOwn {scope : Scope} {x : Str} {a : Addr} {es : List D} : ∀ {σc : St}, Cap env σ scope σc → σc.lookup x ≠ some (.own a es)
  | [], _ => nofun
  | (y, .val e) :: r, h => by
    rw [List.lookup_cons]
    cases x == y with
    | true => exact nofun
    | false => exact Cap.noOwn h.2
  | (y, .own _ _) :: r, h => h.elim
end
end Mine
end
section
open PySem PySem.W PyProof.Rows PySem.Calls
set_option maxRecDepth 100000
namespace Mine
section
variable {G : Gr} {n : Nat} {env : Env} {σ : St} {sc : Scope}
/-- objects change that the frame's state does not lean on -/
theorem Inv.mvW {base : Heap} {ok : Addr → Prop} {W : Addr → Prop} {s s' : Shared} (i : Inv base ok env σ s.heap) (m : Mv base W s s') (hf : ∀ a, W a → ¬ Wr env σ a) (hn : ∀ a, W a → okO ok σ a → ¬ IsNode s.heap a) : Inv base ok env σ s'.heap := by
  have nf : ∀ a, okO ok σ a → IsNode s.heap a → ¬ W a := fun a o q z => hn a z o q
  have hh : ∀ y v, Holds env s.heap y v → Holds env s'.heap y v := fun y v q => by
    rcases q with ⟨k, mm, hns, r⟩ | ⟨k, c, hc, r⟩
    · obtain ⟨o, es, ep, e, d, rr⟩ := hns
      obtain ⟨o', e', _, d', _⟩ := m.ext _ o (fun z => hf _ z (.inl (.inl rfl))) e
      exact .inl ⟨k, mm, ⟨o', es, ep, e', d'.trans d, rr⟩, r⟩
    · obtain ⟨o, e, d⟩ := r
      obtain ⟨o', e', _, d', _⟩ := m.ext _ o (fun z => hf _ z (.inl (.inr ⟨y, hc⟩))) e
      exact .inr ⟨k, c, hc, o', e', d'.trans d⟩
  refine ⟨⟨i.frame.kind, ?_, fun y c q => ?_, i.frame.apart, i.frame.away, i.frame.glob, i.frame.blt⟩, i.off, fun b e => i.fresh b (m.dom b e), fun y d q => ?_, fun y b es q => ?_, fun b w => ?_, i.once⟩
  · obtain ⟨mm, o, es, ep, e, d, rr⟩ := i.frame.ns
    obtain ⟨o', e', _, d', _⟩ := m.ext _ o (fun z => hf _ z (.inl (.inl rfl))) e
    exact ⟨mm, o', es, ep, e', d'.trans d, rr⟩
  · obtain ⟨v, o, e, d⟩ := i.frame.cells y c q
    obtain ⟨o', e', _, d', _⟩ := m.ext _ o (fun z => hf _ z (.inl (.inr ⟨y, q⟩))) e
    exact ⟨v, o', e', d'.trans d⟩
  · obtain ⟨u, p, r⟩ := i.vals y d q
    exact ⟨u, hh y u p, r.extBut m.ext nf fun _ w _ => w⟩
  · obtain ⟨p, o, vs, lv, rs⟩ := i.owns y b es q
    exact ⟨hh y _ p, o, vs, m.ext.own (fun z => hf b z (.inr (owned_of_lookup q))) lv, rs.extBut m.ext nf fun _ w _ => w⟩
  · obtain ⟨vs, lv⟩ := i.there b w
    exact ⟨vs, m.ext.own (fun z => hf b z (.inr w)) lv⟩
/-- the tests of a comprehension -/
def Tests (G : Gr) (n : Nat) (cenv : Env) (σ : St) (ifs : List Expr) (b : Bool) : Prop := ∀ ok A s E, Room n A → G.base.StaysIn s.heap → Inv G.base ok cenv σ s.heap →
  wpAny G.M A (forIn ifs true fun c r => if r = true then do let ok ← isTrue c cenv (eval c cenv); pure (ForInStep.yield ok) else pure (ForInStep.yield r)) (fun r s' => Stp G.base s s' ∧ r = b) E s
theorem Tests.nil {cenv : Env} : Tests G n cenv σ [] true := fun _ _ _ _ _ _ _ => wpAny_tests_nil ⟨.refl, rfl⟩
theorem Tests.one {cenv : Env} {c : Expr} {b : Bool} (h : Tr G n cenv σ c b) : Tests G n cenv σ [c] b := fun ok A s E r k i => wpAny_tests_one (h ok A s E r k i)
theorem compLoop_any {prog : Program} {w : World} {A : Around} {R : Result → Shared → Prop} {s : Shared} {elt target iter : Expr} {ifs : List Expr} {scope : Scope} {pos : Pos} {it acc : Value} {env : Env} (I : Nat → Shared → Prop)
    (turn : ∀ n s, I n s → ∀ E, (∀ e s', False → E e s') → wpAny (model prog w) A (pyNext it) (fun r s₁ => match r with
      | none => R (.ok .next) s₁
      | some v => wpAny (model prog w) A (letOwnedTupleGo target it v) (fun _ s₁' => wpAny (model prog w) A (assign target env v) (fun _ s₂ =>
          wpAny (model prog w) A (forIn ifs true fun c r => if r = true then do let ok ← isTrue c env (eval c env); pure (ForInStep.yield ok) else pure (ForInStep.yield r)) (fun ok s₃ =>
            if ok = true then wpAny (model prog w) A (eval elt env) (fun x s₄ =>
              wpAny (model prog w) A (call (.builtin "list.append") [acc, x]) (fun _ s₅ => ∃ m, m < n ∧ I m s₅) E s₄) E s₃
            else ∃ m, m < n ∧ I m s₃) E s₂) E s₁') E s₁) E s)
    (n : Nat) (h : I n s) : codeAny (model prog w) A (.compLoop (.ListComp elt [⟨target, iter, ifs, 0⟩] scope pos) 0 it acc env) R s := by
  refine codeAny_loop rfl I (fun n s hI => ?_) n h
  show wpAny _ A ((compTurn (.ListComp elt [⟨target, iter, ifs, 0⟩] scope pos) 0 it acc env).onRaise (fun x => do noteFrame x env; theTreesLotGoes x)) _ _ s
  refine wpAny_noted ?_
  rw [compTurn_list]
  refine wpAny_bind (wpAny_standAt (wpAny_bind (wpAny_mono (turn n s hI _ (fun _ _ f => f.elim)) (fun r s₁ h₁ => ?_) fun _ _ h' => h')))
  cases r with
  | none => exact wpAny_pure h₁
  | some v =>
    refine wpAny_bind (wpAny_mono h₁ (fun _ s₁' h₁' => ?_) fun _ _ h' => h')
    refine wpAny_bind (wpAny_mono h₁' (fun _ s₂ h₂ => wpAny_bind (wpAny_mono h₂ (fun ok s₃ h₃ => ?_) fun _ _ h' => h')) fun _ _ h' => h')
    cases ok with
    | false => exact wpAny_pure ⟨rfl, h₃⟩
    | true =>
      exact wpAny_bind (wpAny_bind (wpAny_mono h₃ (fun x s₄ h₄ => wpAny_bind (wpAny_mono h₄ (fun _ s₅ h₅ => wpAny_pure (wpAny_pure ⟨rfl, h₅⟩)) fun _ _ h' => h')) fun _ _ h' => h'))
inductive CpI (G : Gr) (ok : Addr → Prop) (cenv : Env) (σc : St) (Sx : Nat → Shared → Prop) (L : Addr) (ds : List D) (keep : D → Bool) (res : D → D) (s : Shared) (m : Nat) (s' : Shared) : Prop
  | mk (j : Nat) (ws : List Value) (hj : j ≤ ds.length) (hm : m = ds.length + 1 - j) (hSx : Sx j s') (hown : OwnL s'.heap L ws) (hrep : RepAll ok s'.heap ws (((ds.take j).filter keep).map res))
    (inv : Inv G.base ok cenv σc s'.heap) (st : Stp G.base s s') (hk : G.base.StaysIn s'.heap) : CpI G ok cenv σc Sx L ds keep res s m s'
theorem comp_core {elt target iter : Expr} {ifs : List Expr} {scope : Scope} {pos ipos : Pos} {ds : List D} {σc : St} {f : D → St → St} {keep : D → Bool} {res : D → D} {use : Option (Value → Sem Unit)} {Q : Value → Shared → Prop}
    (FE : FEnv env sc) (hfree : (scope.names.all fun p => p.2 != .free || sc.names.lookup p.1 == some .cell) = true) (hnd : (scope.names.map (·.1)).Nodup) (hcell : ∀ y ∈ scope.names, y.2 ≠ .cell) (hkind : scope.kind = .function)
    (hcap : Cap env σ scope σc) (hi : EvI G n env σ iter target ds) (hsub : ∀ d ∈ ds, Sub σc (f d σc))
    (hturn : ∀ cenv, CEnv cenv scope → ∀ d ∈ ds, AssC G n cenv target d (f d) ∧ Tests G n cenv (f d σc) ifs (keep d) ∧ (keep d = true → Ev G n cenv (f d σc) elt (res d)))
    (hz : ds.length < sizeLine) (hs : ∀ x, foldedSetIterable iter env x = pure x)
    {ok : Addr → Prop} {A : Around} {s : Shared} {E : Value → Shared → Prop} (r : Room n A) (k : G.base.StaysIn s.heap) (i : Inv G.base ok env σ s.heap)
    (K : ∀ L C ws s' m, Stp G.base s s' → s.heap.get? L = none → s.heap.get? C = none → L ≠ C → OwnL s'.heap L ws → RepAll (fun b => okO ok σ b ∧ b ≠ L) s'.heap ws ((ds.filter keep).map res) → s'.heap.Ns C m → compPost G.M A E use Q (.ref L) C (.ok .next) s') :
    wpAny G.M A (comprehension (.ListComp elt [⟨target, iter, ifs, 0⟩] scope pos) scope env ipos (newList []) false (eval iter env) use) Q E s := by
  have hcells : ∀ p ∈ scope.names, p.2 = .free → (env.cells.lookup p.1).isSome = true := fun p hp hf => by
    have := List.all_eq_true.mp hfree p hp
    rw [hf] at this
    exact FE.cells p.1 (by simpa using this)
  obtain ⟨cl, hclos, hcl1, hcl2, hcl3⟩ := closureFor_is (env := env) scope hcells
  have hnames : ∀ x ∈ scope.names, x.2 = .local → scope.names.lookup x.1 = some .local := fun x hx hl => by
    have : ∀ l : List (Str × NameKind), (l.map (·.1)).Nodup → x ∈ l → l.lookup x.1 = some x.2 := by
      intro l
      induction l with
      | nil => intro _ m; cases m
      | cons y t ih =>
        intro nd m
        obtain ⟨y, ky⟩ := y
        rw [List.map_cons, List.nodup_cons] at nd
        rw [List.lookup_cons]
        rcases List.mem_cons.mp m with q | q
        · subst q; simp
        · cases e : x.1 == y with
          | true => exact absurd (List.mem_map.mpr ⟨x, q, beq_iff_eq.mp e⟩) nd.1
          | false => exact ih nd.2 q
    rw [this scope.names hnd hx, hl]
  refine wpAny_comprehension_free (cl := cl) (e := .ListComp elt [⟨target, iter, ifs, 0⟩] scope pos) rfl hs hclos hkind hnames (wpAny_mono (hi ok A s E r k i) (fun x s₁ p₁ => wpAny_mono p₁ (fun it s₂ p₂ => ?_) fun _ _ x => x) fun _ _ x => x)
  obtain ⟨st, I, fp, wr, wg, Sx, rfl, W, hst, hfp, hwr, hwg⟩ := p₂
  have i₂ := i.ext st.ext
  have k₂ := st.ext.base k
  refine wpAny_newObj_type (wpAny_newFunctionEnv hcell (by intro y hy; simp at hy) (fun h₁ hns₁ hsb₁ => ?_) hkind)
  dsimp only at hns₁ hsb₁ ⊢
  -- the new list and the new namespace
  generalize hH : s₂.heap.push { cls := .type "list", dict := none, data := .seq ([] : List Value).toArray } = H at hns₁ hsb₁ ⊢
  generalize hL : s₂.heap.objs.size = L
  generalize hC : H.objs.size = C at hns₁ hsb₁
  have hCsz : C = L + 1 := by rw [← hC, ← hH, Heap.size_push, hL]
  have hLn : s₂.heap.get? L = none := by rw [← hL]; exact fresh_get
  have hCn : s₂.heap.get? C = none := by
    cases q : s₂.heap.get? C with
    | none => rfl
    | some o => have := Heap.lt_size q; rw [hL, hCsz] at this; exact absurd this (Nat.not_lt.mpr (Nat.le_succ L))
  have hLC : L ≠ C := by rw [hCsz]; exact Nat.ne_of_lt (Nat.lt_succ_self _)
  have old : ∀ b o, s₂.heap.get? b = some o → h₁.get? b = some o := fun b o e => hsb₁.extBut b o (fun q => by rw [q, hCn] at e; cases e) (Heap.get?_push_of_some _ (hH ▸ Heap.get?_push_of_some _ e))
  have hLo : OwnL h₁ L [] := ⟨0, hsb₁.extBut _ _ hLC (Heap.get?_push_of_some _ (hH ▸ hL ▸ Heap.get?_push_size _ rfl))⟩
  generalize hs3 : ({ s₂ with heap := h₁, toks := s₂.toks + ([] : List (Str × Value)).length } : Shared) = s₃
  have hs3' : s₃ = { s₂ with heap := h₁, toks := s₂.toks + ([] : List (Str × Value)).length } := hs3.symm
  have st₃ : Stp G.base s₂ s₃ := by rw [hs3']; exact .heap old
  have hh3 : s₃.heap = h₁ := by rw [hs3']
  show codeAny G.M A (.compStart (.ListComp elt [⟨target, iter, ifs, 0⟩] scope pos) 0 (.ref I) (.ref L) (compEnvC scope cl C env)) (compPost G.M A E use Q (.ref L) C) s₃
  generalize hce' : compEnvC scope cl C env = cenv
  replace hce' := hce'.symm
  have hcloc : cenv.locals = C := by rw [hce']; rfl
  have hccells : cenv.cells = cl := by rw [hce']; rfl
  have CE : CEnv cenv scope := ⟨fun x kd hx hne => by
    rw [hce']
    rcases lookup_relabel (env := env) hx with q | q
    · exact q
    · exact absurd q.1 hne⟩
  have hfrc : ∀ a, FrW cenv a → a = C ∨ FrW env a := fun a w => by
    rcases w with w | ⟨x, w⟩
    · exact .inl (w.trans hcloc)
    · rw [hccells] at w
      exact .inr (.inr ⟨x, (hcl1 _ _ (mem_of_lookup w)).1⟩)
  have hokin : FreshOk (fun b => okO ok σ b ∧ b ≠ L) s₃.heap := fun b e => ⟨(i₂.ext st₃.ext).freshO b e, fun q => by
    have := hLo.some; rw [← hh3, ← q, e] at this; cases this⟩
  have hbase : ∀ a, s₂.heap.get? a = none → G.base.get? a = none := fun a e => by
    cases q : G.base.get? a with
    | none => rfl
    | some o => rw [k₂ a o q] at e; cases e
  have oc := hcap.owned
  have hwrc : ∀ a, Wr cenv σc a → a = C ∨ FrW env a := fun a w => by
    rcases w with w | w
    · exact hfrc a w
    · rw [oc] at w; cases w
  have inv₃ : Inv G.base (fun b => okO ok σ b ∧ b ≠ L) cenv σc s₃.heap := by
    refine ⟨⟨by rw [hce']; exact hkind, ⟨_, by rw [hcloc, hh3]; exact hns₁⟩, fun x c l => ?_, ?_, fun x c l => ?_, by rw [hce']; exact i.frame.glob, by rw [hce']; exact i.frame.blt⟩, fun a w => ?_, hokin, fun x d l => ?_, fun x a es l => absurd l hcap.noOwn, fun a w => (by rw [oc] at w; cases w), (by rw [oc]; exact List.nodup_nil)⟩
    · rw [hccells] at l
      obtain ⟨v, q⟩ := i₂.frame.cells x c (hcl1 _ _ (mem_of_lookup l)).1
      exact ⟨v, st₃.ext.cell q⟩
    · rw [hccells]
      -- different names, different cells
      have : ∀ l : List (Str × Addr), (∀ y c, (y, c) ∈ l → env.cells.lookup y = some c) → (l.map (·.1)).Nodup → l.Pairwise fun x y => x.2 ≠ y.2 := by
        intro l
        induction l with
        | nil => intro _ _; exact List.Pairwise.nil
        | cons q t ih =>
          intro hl nd
          rw [List.map_cons, List.nodup_cons] at nd
          refine List.pairwise_cons.mpr ⟨fun p hp e => nd.1 (List.mem_map.mpr ⟨p, hp, ?_⟩), ih (fun y c m => hl y c (.tail _ m)) nd.2⟩
          exact (cells_inj i.frame.apart (hl q.1 q.2 (.head _)) (e ▸ hl p.1 p.2 (.tail _ hp))).symm
      refine this cl (fun y c m => (hcl1 y c m).1) ?_
      rw [hcl3]
      exact List.pairwise_reverse.mpr ((hnd.sublist (List.filter_sublist.map _)).imp fun q e => q e.symm)
    · rw [hccells] at l
      rw [hcloc]
      intro e
      obtain ⟨v, o, q, _⟩ := i₂.frame.cells x c (hcl1 _ _ (mem_of_lookup l)).1
      rw [e, hCn] at q; cases q
    · rcases hwrc a w with q | q
      · rw [q]; exact hbase C hCn
      · exact i.off a (.inl q)
    · obtain ⟨q1, q2, q3⟩ := hcap.get l
      obtain ⟨v, hv, rp⟩ := i₂.vals x d q1
      refine ⟨v, ?_, rp.ext st₃.ext fun b w z => ⟨⟨w, fun e => by rw [e, hLn] at z; cases z⟩, by rw [oc]; simp⟩⟩
      rcases hv with ⟨kd, _⟩ | ⟨_, c, hc, hv⟩
      · rw [q3] at kd; cases kd
      · refine .inr ⟨?_, c, ?_, st₃.ext.cell hv⟩
        · rw [hce']
          rcases lookup_relabel (env := env) q2 with q | q
          · exact .inr q
          · exact .inl q.2
        · rw [hccells, hcl2 _ (mem_of_lookup q2) rfl]; exact hc
  have loop : codeAny G.M A (.compLoop (.ListComp elt [⟨target, iter, ifs, 0⟩] scope pos) 0 (.ref I) (.ref L) cenv) (compPost G.M A E use Q (.ref L) C) s₃ := by
    have hfpL : ∀ a, fp a → a ≠ L := fun a q e => by have := (hfp a q).1; rw [e, hLn] at this; cases this
    have hfpC : ∀ a, fp a → a ≠ C := fun a q e => by have := (hfp a q).1; rw [e, hCn] at this; cases this
    have hok0 : ∀ a, (okO ok σ a ∧ (s₂.heap.get? a).isSome = true) → okO ok σ a ∧ a ≠ L := fun a q => ⟨q.1, fun e => by have := q.2; rw [e, hLn] at this; cases this⟩
    have hok0C : ∀ a, (okO ok σ a ∧ (s₂.heap.get? a).isSome = true) → a ≠ C := fun a q e => by have := q.2; rw [e, hCn] at this; cases this
    have hwrw : ∀ a, wr a → ¬ Wr cenv σc a := fun a q w => by
      rcases hwrc a w with z | z
      · exact hfpC a (hwr a q).2 z
      · exact (hfp a (hwr a q).2).2 (.inl z)
    have hLw : ¬ Wr cenv σc L := fun w => by
      rcases hwrc L w with z | z
      · exact hLC z
      · rcases z with z | ⟨x, z⟩
        · obtain ⟨m, o, _, _, q, _⟩ := i₂.frame.ns; rw [← z, hLn] at q; cases q
        · obtain ⟨v, o, q, _⟩ := i₂.frame.cells x L z; rw [hLn] at q; cases q
    have hsL : s.heap.get? L = none := st.ext.none hLn
    have hsC : s.heap.get? C = none := st.ext.none hCn
    refine compLoop_any (CpI G (fun b => okO ok σ b ∧ b ≠ L) cenv σc Sx L ds keep res s) ?_ (ds.length + 1)
      ⟨0, [], Nat.zero_le _, rfl, W.frame 0 s₂ s₃ (fun _ => False) hst st₃.mv (fun _ _ z => z) (fun _ _ _ z => z), by rw [hh3]; exact hLo, .nil, inv₃, st.trans st₃, st₃.ext.base k₂⟩
    rintro m s' ⟨j, ws, hj, rfl, hSx, hown, hrep, hinv, hstp, hk⟩ E' _
    have hnode : ∀ {P : Addr → Prop} a, P a → IsNode s'.heap a → ¬ wr a := fun a _ nd z => (W.node j s' a hSx z).1 nd
    by_cases hlt : j < ds.length
    · have hd : ds[j]? = some ds[j] := List.getElem?_eq_getElem hlt
      have hdm : ds[j] ∈ ds := List.getElem_mem hlt
      obtain ⟨hass, htest, helt⟩ := hturn cenv CE ds[j] hdm
      refine wpAny_mono (W.item j ds[j] s' E' (fun b => okO ok σ b ∧ b ≠ L) hd hSx hk hok0 hinv.fresh) (fun r' s₄ q => ?_) fun _ _ x => x
      obtain ⟨v, rfl, q⟩ := q
      refine wpAny_mono q (fun _ s₅ q => ?_) fun _ _ x => x
      obtain ⟨rp, hSx₅, mi⟩ := q
      have inv₅ := hinv.mvI mi hwrw (fun a w => (W.node j s' a hSx w).1) fun b w => ⟨i.freshO b (hwr b w).1, hfpL b (hwr b w).2⟩
      have st₅ : Stp G.base s s₅ := (MvI.after (hstp.mv (W := fun _ => False)) mi (fun a w => (hwr a w).1) hwg).stp fun _ z => z.elim
      have own₅ : OwnL s₅.heap L ws := mi.ext.own (fun z => hfpL L (hwr L z).2 rfl) hown
      have rep₅ : RepAll (fun b => okO ok σ b ∧ b ≠ L) s₅.heap ws _ := hrep.extBut mi.ext hnode fun _ q _ => q
      refine wpAny_mono (hass σc _ A s₅ E' v r (st₅.ext.base k) inv₅ oc (rp.weak fun b q => ⟨q, by rw [oc]; simp⟩)) (fun _ s₆ q => ?_) fun _ _ x => x
      obtain ⟨inv₆, mv₆, ow₆⟩ := q
      rw [hcloc] at mv₆
      have st₆ : Stp G.base s s₆ := ((st₅.mv (W := fun _ => False)).trans (mv₆) fun p w => .inr (w ▸ hsC)).stp fun _ z => z.elim
      have own₆ : OwnL s₆.heap L ws := mv₆.ext.own hLC own₅
      have rep₆ : RepAll (fun b => okO ok σ b ∧ b ≠ L) s₆.heap ws _ := rep₅.extBut mv₆.ext (fun a _ nd z => node_not_frame inv₅.frame nd (.inl (z.trans hcloc.symm))) fun _ q _ => q
      have hSx₆ : Sx (j + 1) s₆ := W.frame (j + 1) s₅ s₆ _ hSx₅ mv₆ (fun a q z => hfpC a q z) (fun a q _ z => hok0C a q z)
      refine wpAny_mono (htest _ A s₆ E' r (st₆.ext.base k) inv₆) (fun ok' s₇ q => ?_) fun _ _ x => x
      obtain ⟨st₇, rfl⟩ := q
      have inv₇ := inv₆.ext st₇.ext
      have own₇ := st₇.ext.own own₆
      have rep₇ := rep₆.stp st₇
      have hSx₇ : Sx (j + 1) s₇ := W.frame (j + 1) s₆ s₇ (fun _ => False) hSx₆ st₇.mv (fun _ _ z => z) (fun _ _ _ z => z)
      have st₇' := st₆.trans st₇
      have hns : (owned σc).Nodup := by rw [oc]; exact List.nodup_nil
      have htake : ds.take (j + 1) = ds.take j ++ [ds[j]] := by rw [List.take_add_one, hd]; rfl
      split
      · rename_i hkp
        refine wpAny_mono (helt hkp _ A s₇ E' r (st₇'.ext.base k) inv₇) (fun v' s₈ q => ?_) fun _ _ x => x
        obtain ⟨st₈, rp₈⟩ := q
        have st₈' := st₇'.trans st₈
        obtain ⟨nn, hLe⟩ := st₈.ext.own own₇
        have rep₈ := rep₇.stp st₈
        have hsz : ws.length ≤ ds.length := by
          rw [rep₈.length, List.length_map]
          exact Nat.le_trans (List.length_filter_le _ _) (by rw [List.length_take]; exact Nat.min_le_right _ _)
        refine append_at (hsz := by rw [List.size_toArray]; exact Nat.le_of_lt (Nat.lt_of_le_of_lt hsz hz)) hLe fun h' hs' hl' => ?_
        have mv₉ : Mv G.base (· = L) s₈ { s₈ with heap := h' } := ⟨fun b o w e => ⟨o, (hs'.2 b w).trans e, rfl, rfl, fun _ => rfl⟩, fun b e => (by
          by_cases hb : b = L
          · have e' : h'.get? b = none := e
            rw [hb, hl'] at e'; cases e'
          · rw [← hs'.2 b hb]; exact e), rfl, .refl⟩
        have st₉ : Stp G.base s { s₈ with heap := h' } := ((st₈'.mv (W := fun _ => False)).trans mv₉ fun p w => .inr (w ▸ hsL)).stp fun _ z => z.elim
        have hSx₈ : Sx (j + 1) s₈ := W.frame (j + 1) s₇ s₈ (fun _ => False) hSx₇ st₈.mv (fun _ _ z => z) (fun _ _ _ z => z)
        refine ⟨ds.length + 1 - (j + 1), turn_lt hlt, j + 1, ws ++ [v'], hlt, rfl, W.frame (j + 1) s₈ _ _ hSx₈ mv₉ (fun a q z => hfpL a q z) (fun a q _ z => (hok0 a q).2 z), ⟨nn + 1, by rw [hl']; simp⟩, ?_, ?_, st₉, st₉.ext.base k⟩
        · rw [htake, List.filter_append, List.map_append]
          have e1 : [ds[j]].filter keep = [ds[j]] := by simp [hkp]
          rw [e1]
          exact (rep₈.extBut mv₉.ext (fun a q _ z => q.2 z) fun _ q _ => q).append (.cons ((rp₈.weak fun b q => q.1).extBut mv₉.ext (fun a q _ z => q.2 z) fun _ q _ => q) .nil)
        · have inv₈ := (inv₇.ext st₈.ext).sub (hsub _ hdm) hns
          exact inv₈.mvW mv₉ (fun a z w => hLw (z ▸ w)) (fun a z o _ => o.1.2 z)
      · rename_i hkp
        refine ⟨ds.length + 1 - (j + 1), turn_lt hlt, j + 1, ws, hlt, rfl, hSx₇, own₇, ?_, inv₇.sub (hsub _ hdm) hns, st₇', st₇'.ext.base k⟩
        rw [htake, List.filter_append, List.map_append]
        have e1 : [ds[j]].filter keep = [] := by simp [hkp]
        rw [e1]; simpa using rep₇
    · have hjl : j = ds.length := Nat.le_antisymm hj (Nat.not_lt.mp hlt)
      subst hjl
      refine wpAny_mono (W.done s' _ hSx hk) (fun r' s₄ q => ?_) fun _ _ x => x
      obtain ⟨rfl, mi⟩ := q
      have inv₄ := hinv.mvI mi hwrw (fun a w => (W.node _ s' a hSx w).1) fun b w => ⟨i.freshO b (hwr b w).1, hfpL b (hwr b w).2⟩
      have st₄ : Stp G.base s s₄ := (MvI.after (hstp.mv (W := fun _ => False)) mi (fun a w => (hwr a w).1) hwg).stp fun _ z => z.elim
      obtain ⟨mm, hmm⟩ := inv₄.frame.ns
      rw [hcloc] at hmm
      rw [List.take_length] at hrep
      exact K L C ws s₄ mm st₄ hsL hsC hLC (mi.ext.own (fun z => hfpL L (hwr L z).2 rfl) hown) (hrep.extBut mi.ext hnode fun _ q _ => q) hmm
  refine codeAny_compStart_list loop (W.self 0 s₃ _ _ (W.frame 0 s₂ s₃ (fun _ => False) hst st₃.mv (fun _ _ z => z) (fun _ _ _ z => z)) loop)
end
end Mine
end
section
open PySem PySem.W PyProof.Rows PySem.Calls
set_option maxRecDepth 100000
namespace Mine
section
variable {G : Gr} {n : Nat} {env : Env} {σ : St} {sc : Scope}
theorem ns_not_node {h : Heap} {a : Addr} {m : Str → Option Value} (n : h.Ns a m) : ¬ IsNode h a := fun q => by
  obtain ⟨o, es, ep, q1, d, _⟩ := n
  cases q with
  | list l => obtain ⟨o', q', _, k, d'⟩ := l; rw [q1] at q'; cases q'; rw [d] at d'; cases d'
  | tup l => obtain ⟨o', q', _, k, d'⟩ := l; rw [q1] at q'; cases q'; rw [d] at d'; cases d'
  | slice q' _ d' => rw [q1] at q'; cases q'; rw [d] at d'; cases d'
  | rng q' => unfold IsRange at q'; rw [q1] at q'; cases q'; cases d
theorem sameBut_ext {base : Heap} {C : Addr} {h h' : Heap} (hs : Heap.SameBut C h h') : ExtBut base (· = C) h h' := fun b o w e => ⟨o, (hs.2 b w).trans e, rfl, rfl, fun _ => rfl⟩
theorem Stp.forget {base : Heap} {C : Addr} {s s₁ : Shared} {h' : Heap} (st : Stp base s s₁) (hC : s.heap.get? C = none) (hs : Heap.SameBut C s₁.heap h') : Stp base s { s₁ with heap := h' } := by
  refine ⟨fun b o e => ?_, st.os, st.gens⟩
  obtain ⟨o', e', c', d', k'⟩ := st.ext b o e
  have hb : b ≠ C := fun q => by rw [q, hC] at e; cases e
  exact ⟨o', (hs.2 b hb).trans e', c', d', k'⟩
theorem Inv.butW {base : Heap} {ok : Addr → Prop} {W : Addr → Prop} {h h' : Heap} (i : Inv base ok env σ h) (m : ExtBut base W h h') (fr : FreshOk ok h') (hf : ∀ a, W a → ¬ Wr env σ a) (hn : ∀ a, W a → okO ok σ a → ¬ IsNode h a) : Inv base ok env σ h' := by
  have nf : ∀ a, okO ok σ a → IsNode h a → ¬ W a := fun a o q z => hn a z o q
  have hh : ∀ y v, Holds env h y v → Holds env h' y v := fun y v q => by
    rcases q with ⟨k, mm, hns, r⟩ | ⟨k, c, hc, r⟩
    · obtain ⟨o, es, ep, e, d, rr⟩ := hns
      obtain ⟨o', e', _, d', _⟩ := m _ o (fun z => hf _ z (.inl (.inl rfl))) e
      exact .inl ⟨k, mm, ⟨o', es, ep, e', d'.trans d, rr⟩, r⟩
    · obtain ⟨o, e, d⟩ := r
      obtain ⟨o', e', _, d', _⟩ := m _ o (fun z => hf _ z (.inl (.inr ⟨y, hc⟩))) e
      exact .inr ⟨k, c, hc, o', e', d'.trans d⟩
  refine ⟨⟨i.frame.kind, ?_, fun y c q => ?_, i.frame.apart, i.frame.away, i.frame.glob, i.frame.blt⟩, i.off, fr, fun y d q => ?_, fun y b es q => ?_, fun b w => ?_, i.once⟩
  · obtain ⟨mm, o, es, ep, e, d, rr⟩ := i.frame.ns
    obtain ⟨o', e', _, d', _⟩ := m _ o (fun z => hf _ z (.inl (.inl rfl))) e
    exact ⟨mm, o', es, ep, e', d'.trans d, rr⟩
  · obtain ⟨v, o, e, d⟩ := i.frame.cells y c q
    obtain ⟨o', e', _, d', _⟩ := m _ o (fun z => hf _ z (.inl (.inr ⟨y, q⟩))) e
    exact ⟨v, o', e', d'.trans d⟩
  · obtain ⟨u, p, r⟩ := i.vals y d q
    exact ⟨u, hh y u p, r.extBut m nf fun _ w _ => w⟩
  · obtain ⟨p, o, vs, lv, rs⟩ := i.owns y b es q
    exact ⟨hh y _ p, o, vs, m.own (fun z => hf b z (.inr (owned_of_lookup q))) lv, rs.extBut m nf fun _ w _ => w⟩
  · obtain ⟨vs, lv⟩ := i.there b w
    exact ⟨vs, m.own (fun z => hf b z (.inr w)) lv⟩
/-- what a comprehension gives -/
structure CompOk (G : Gr) (n : Nat) (env : Env) (σ : St) (sc : Scope) (elt target iter : Expr) (ifs : List Expr) (scope : Scope) (out : List D) : Prop where
  go : ∀ {pos ipos : Pos} {use : Option (Value → Sem Unit)} {Q : Value → Shared → Prop} {ok : Addr → Prop} {A : Around} {s : Shared} {E : Value → Shared → Prop}, Room n A → G.base.StaysIn s.heap → Inv G.base ok env σ s.heap →
    (∀ L C ws s' m, Stp G.base s s' → s.heap.get? L = none → s.heap.get? C = none → L ≠ C → OwnL s'.heap L ws → RepAll (fun b => okO ok σ b ∧ b ≠ L) s'.heap ws out → s'.heap.Ns C m → compPost G.M A E use Q (.ref L) C (.ok .next) s') →
    wpAny G.M A (comprehension (.ListComp elt [⟨target, iter, ifs, 0⟩] scope pos) scope env ipos (newList []) false (eval iter env) use) Q E s
theorem CompOk.mk' {elt target iter : Expr} {ifs : List Expr} {scope : Scope} {ds : List D} {σc : St} {f : D → St → St} {keep : D → Bool} {res : D → D} {out : List D}
    (FE : FEnv env sc) (hcap : Cap env σ scope σc) (hi : EvI G n env σ iter target ds) (hsub : ∀ d ∈ ds, Sub σc (f d σc))
    (hturn : ∀ cenv, CEnv cenv scope → ∀ d ∈ ds, AssC G n cenv target d (f d) ∧ Tests G n cenv (f d σc) ifs (keep d) ∧ (keep d = true → Ev G n cenv (f d σc) elt (res d)))
    (hz : ds.length < sizeLine) (ho : (ds.filter keep).map res = out)
    (hfree : (scope.names.all fun p => p.2 != .free || sc.names.lookup p.1 == some .cell) = true := by decide) (hnd : (scope.names.map (·.1)).Nodup := by decide) (hcell : ∀ y ∈ scope.names, y.2 ≠ .cell := by decide) (hkind : scope.kind = .function := by rfl)
    (hs : ∀ x, foldedSetIterable iter env x = pure x := by intro _; rfl) : CompOk G n env σ sc elt target iter ifs scope out :=
  ⟨fun r k i K => comp_core FE hfree hnd hcell hkind hcap hi hsub hturn hz hs r k i (by rw [ho]; exact K)⟩
theorem EvF.comp {elt target iter : Expr} {ifs : List Expr} {scope : Scope} {pos : Pos} {out : List D} (h : CompOk G n env σ sc elt target iter ifs scope out) :
    EvF G n env σ (.ListComp elt [⟨target, iter, ifs, 0⟩] scope pos) out := fun ok A s E r k i => by
  rw [eval_ListComp]
  refine h.go (use := none) r k i fun L C ws s' m st hL hC hLC l rs hn => ⟨m, hn, fun h' hs => ⟨st.forget hC hs, L, ws, rfl, hL, ?_, ?_⟩⟩
  · exact (sameBut_ext (base := G.base) hs).own hLC l
  · exact rs.extBut (sameBut_ext (base := G.base) hs) (fun a _ nd e => ns_not_node hn (e ▸ nd)) fun _ q _ => q
/-- x = [.. for ..], the store under way while the loop's frame goes -/
theorem Ex1.assignComp {x : Str} {elt target iter : Expr} {ifs : List Expr} {scope : Scope} {p pos spos : Pos} {out : List D} (h : CompOk G n env σ sc elt target iter ifs scope out) (hx : Storable env x)
    (hs : swapsWith (.ListComp elt [⟨target, iter, ifs, 0⟩] scope pos) (some (.Name x p)) spos.line env = pure true) :
    Ex1 G n env σ (.Assign [.Name x p] (.ListComp elt [⟨target, iter, ifs, 0⟩] scope pos) spos) fun fl σ' => fl = .next ∧ ∃ a, σ' = setS x (.own a out) σ := fun ok A s E r k i => by
  rw [exec_Assign_Name_used _ _ _ _ hs]
  refine wpAny_bind (wpAny_standAt (wpAny_bind ?_))
  show wpAny _ A (do let _ ← comprehension (.ListComp elt [⟨target, iter, ifs, 0⟩] scope pos) scope env _ (newList []) false (eval iter env) (some (PySem.assign (.Name x p) env))) _ _ s
  refine wpAny_bind (wpAny_mono (h.go (use := some (PySem.assign (.Name x p) env)) (Q := fun _ s' => After G env σ ok s (fun fl σ' => fl = .next ∧ ∃ a, σ' = setS x (.own a out) σ) .next s') r k i fun L C ws s' m st hL hC hLC l rs hn => ?_)
    (fun _ s' hq => wpAny_pure (wpAny_pure hq)) fun _ _ e => e)
  show wpAny _ A (PySem.assign (.Name x p) env (.ref L)) _ _ _
  refine wpAny_assign_Name ?_
  have i₁ := i.ext st.ext
  have hCF : ¬ FrW env C := fun w => by
    rcases w with z | ⟨x, z⟩
    · obtain ⟨m, o, _, _, q, _⟩ := i.frame.ns; rw [← z, hC] at q; cases q
    · obtain ⟨v, o, q, _⟩ := i.frame.cells x C z; rw [hC] at q; cases q
  refine wpAny_store (base := G.base) i₁.frame hx fun s₂ hv ho F mv => ?_
  have hn₂ : s₂.heap.Ns C m := by
    obtain ⟨o, es, ep, e, d, rr⟩ := hn
    obtain ⟨o', e', _, d', _⟩ := mv.ext _ o hCF e
    exact ⟨o', es, ep, e', d'.trans d, rr⟩
  refine ⟨m, hn₂, fun h' hs' => ?_⟩
  obtain ⟨i', m', k', o'⟩ := After.own k i st hL l rs hv ho F mv
  have fr : FreshOk ok h' := fun b e => by
    by_cases hb : b = C
    · rw [hb]; exact i.fresh C hC
    · exact i'.fresh b ((hs'.2 b hb).symm.trans e)
  have hCo : ¬ Wr env (setS x (.own L out) σ) C := fun w => by
    rcases w with w | w
    · exact hCF w
    · rcases o' C w with w | w
      · obtain ⟨vs, q⟩ := i.there C w; have := q.some; rw [hC] at this; cases this
      · exact hLC w.symm
  have mm : Mv G.base (Wr env σ) s { s₂ with heap := h' } := ⟨fun b o w e => by
      obtain ⟨o', e', c', d', k'⟩ := m'.ext b o w e
      have hb : b ≠ C := fun q => by rw [q, hC] at e; cases e
      exact ⟨o', (hs'.2 b hb).trans e', c', d', k'⟩, fun b e => (by
      by_cases hb : b = C
      · rw [hb]; exact hC
      · exact m'.dom b ((hs'.2 b hb).symm.trans e)), m'.os, m'.gens⟩
  exact ⟨.next, _, ⟨rfl, L, rfl⟩, trivial, i'.butW (sameBut_ext hs') fr (fun a e => e ▸ hCo) (fun a e _ => e ▸ ns_not_node hn₂), mm, mm.base k i.off, fun b w => (o' b w).imp id fun w => by rw [w]; exact hL⟩
end
end Mine
end
section
open PySem PySem.W PyProof.Rows PySem.Calls
set_option maxRecDepth 100000
namespace Mine
theorem own_inj {x y : Str} {a : Addr} {es fs : List D} : ∀ {σ : St}, (owned σ).Nodup → σ.lookup x = some (.own a es) → σ.lookup y = some (.own a fs) → x = y
  | (z, t) :: r, nd, hx, hy => by
    rw [List.lookup_cons] at hx hy
    rw [owned_cons] at nd
    cases ex : x == z with
    | true =>
      rw [ex] at hx; cases hx
      cases ey : y == z with
      | true => rw [beq_iff_eq.mp ex, beq_iff_eq.mp ey]
      | false =>
        rw [ey] at hy
        exact absurd (owned_of_lookup hy) (List.nodup_cons.mp nd).1
    | false =>
      rw [ex] at hx
      cases ey : y == z with
      | true =>
        rw [ey] at hy; cases hy
        exact absurd (owned_of_lookup hx) (List.nodup_cons.mp nd).1
      | false =>
        rw [ey] at hy
        exact own_inj (List.nodup_append.mp nd).2.1 hx hy
theorem owned_mem : ∀ {σ : St} {a : Addr}, a ∈ owned σ → ∃ x es, (x, Slot.own a es) ∈ σ
  | (z, t) :: r, a, h => by
    rw [owned_cons] at h
    rcases List.mem_append.mp h with h | h
    · cases t with
      | val d => cases h
      | own b es => rw [List.mem_singleton.mp h]; exact ⟨z, es, .head _⟩
    · obtain ⟨x, es, q⟩ := owned_mem h
      exact ⟨x, es, .tail _ q⟩
theorem Sub.mem {σ₀ σ : St} (h : Sub σ₀ σ) : ∀ {x s}, (x, s) ∈ σ₀ → σ.lookup x = some s := by
  induction σ₀ with
  | nil => intro _ _ q; cases q
  | cons y r ih =>
    intro x s q
    rcases List.mem_cons.mp q with q | q
    · cases q; exact h.1
    · exact ih h.2 q
theorem Sub.nodup {σ : St} (nd : (Mine.owned σ).Nodup) : ∀ {σ₀ : St}, (σ₀.map (·.1)).Nodup → Sub σ₀ σ → (Mine.owned σ₀).Nodup
  | [], _, _ => List.nodup_nil
  | (x, t) :: r, hn, hs => by
    rw [List.map_cons, List.nodup_cons] at hn
    have ih := Sub.nodup nd hn.2 hs.2
    cases t with
    | val d => exact ih
    | own a es =>
      refine List.nodup_cons.mpr ⟨fun q => ?_, ih⟩
      obtain ⟨y, fs, q⟩ := owned_mem q
      have : x = y := own_inj nd hs.1 (Sub.mem hs.2 q)
      exact hn.1 (List.mem_map.mpr ⟨_, q, this.symm⟩)
section
variable {G : Gr} {n : Nat} {env : Env} {σ : St} {sc : Scope}
theorem Ex.only {σ₀ : St} {body : List Stmt} {Q : Fl → St → Prop} (hs : Sub σ₀ σ) (h : Ex G n env σ₀ body Q) (hn : (σ₀.map (·.1)).Nodup := by simp; try decide) : Ex G n env σ body Q := fun ok A s E r k i =>
  wpAny_mono (h ok A s E r k (i.sub hs (Sub.nodup i.once hn hs))) (fun _ _ a => a.sub hs.owned) fun _ _ x => x
theorem Ex1.only {σ₀ : St} {st : Stmt} {Q : Fl → St → Prop} (hs : Sub σ₀ σ) (h : Ex1 G n env σ₀ st Q) (hn : (σ₀.map (·.1)).Nodup := by simp; try decide) : Ex1 G n env σ st Q := fun ok A s E r k i =>
  wpAny_mono (h ok A s E r k (i.sub hs (Sub.nodup i.once hn hs))) (fun _ _ a => a.sub hs.owned) fun _ _ x => x
theorem Ex.post {body : List Stmt} {Q Q' : Fl → St → Prop} (h : Ex G n env σ body Q) (hq : ∀ fl σ', Q fl σ' → Q' fl σ' ∨ ∃ σ₀, Sub σ₀ σ' ∧ (σ₀.map (·.1)).Nodup ∧ Q' fl σ₀) : Ex G n env σ body Q' := fun ok A s E r k i =>
  wpAny_mono (h ok A s E r k i) (fun f s' a => by
    obtain ⟨fl, σ', q, fi, i', m, k', o⟩ := a
    rcases hq fl σ' q with q' | ⟨σ₀, hs, hn, q'⟩
    · exact ⟨fl, σ', q', fi, i', m, k', o⟩
    exact ⟨fl, σ₀, q', fi, i'.sub hs (Sub.nodup i'.once hn hs), m, k', fun b w => o b (hs.owned b w)⟩) fun _ _ x => x
/-- what a turn of a loop leaves -/
def Turn {ι : Type} (S : ι → St) (K : St → Prop) (Q : Fl → St → Prop) (fl : Fl) (σ₂ : St) : Prop := match fl with
  | .next | .cont => ∃ p, Sub (S p) σ₂
  | .brk => K σ₂
  | .ret r => Q (.ret r) σ₂
/-- the same, with a word on the state's numbers -/
def TurnJ {ι : Type} (S : ι → St) (J : ι → Prop) (K : St → Prop) (Q : Fl → St → Prop) (fl : Fl) (σ₂ : St) : Prop := match fl with
  | .next | .cont => ∃ p, J p ∧ Sub (S p) σ₂
  | .brk => K σ₂
  | .ret r => Q (.ret r) σ₂
theorem Ex.forJ {ι : Type} {target iter : Expr} {body rest : List Stmt} {pos : Pos} {ds : List D} {f : D → St → St} {Q : Fl → St → Prop} (S : Nat → ι → St) (J : Nat → ι → Prop) (p₀ : ι) (hJ : J 0 p₀) (h0 : Sub (S 0 p₀) σ) (nd : ∀ i p, ((S i p).map (·.1)).Nodup)
    (hi : EvI G n env (S 0 p₀) iter target ds) (ht : ∀ d ∈ ds, AssD G n env target d (f d))
    (turn : ∀ i d p, ds[i]? = some d → J i p → Ex G n env (f d (S i p)) body (TurnJ (S (i + 1)) (J (i + 1)) (fun σ₂ => Ex G n env σ₂ rest Q) Q))
    (done : ∀ p, J ds.length p → Ex G n env (S ds.length p) rest Q) (hs : ∀ x, foldedSetIterable iter env x = pure x := by intro _; rfl) : Ex G n env σ (.For target iter body [] pos :: rest) Q := by
  refine Ex.cons (Ex1.only h0 ?_ (nd _ _))
  refine Ex1.for (f := f) hi ht (fun i σ₁ => ∃ p, J i p ∧ σ₁ = S i p) ⟨p₀, hJ, rfl⟩ (fun i d σ₁ hd hJ => ?_) (fun σ₁ hJ => ?_) hs
  · obtain ⟨p, hj, rfl⟩ := hJ
    refine (turn i d p hd hj).post fun fl σ' h => ?_
    cases fl with
    | next => obtain ⟨p', hj', hp⟩ := h; exact .inr ⟨_, hp, nd _ _, p', hj', rfl⟩
    | cont => obtain ⟨p', hj', hp⟩ := h; exact .inr ⟨_, hp, nd _ _, p', hj', rfl⟩
    | brk => exact .inl h
    | ret r => exact .inl h
  · obtain ⟨p, hj, rfl⟩ := hJ
    exact done p hj
theorem Ex.forS {ι : Type} {target iter : Expr} {body rest : List Stmt} {pos : Pos} {ds : List D} {f : D → St → St} {Q : Fl → St → Prop} (S : Nat → ι → St) (p₀ : ι) (h0 : Sub (S 0 p₀) σ) (nd : ∀ i p, ((S i p).map (·.1)).Nodup)
    (hi : EvI G n env (S 0 p₀) iter target ds) (ht : ∀ d ∈ ds, AssD G n env target d (f d))
    (turn : ∀ i d p, ds[i]? = some d → Ex G n env (f d (S i p)) body (Turn (S (i + 1)) (fun σ₂ => Ex G n env σ₂ rest Q) Q))
    (done : ∀ p, Ex G n env (S ds.length p) rest Q) (hs : ∀ x, foldedSetIterable iter env x = pure x := by intro _; rfl) : Ex G n env σ (.For target iter body [] pos :: rest) Q := by
  refine Ex.forJ S (fun _ _ => True) p₀ trivial h0 nd hi ht (fun i d p hd _ => (turn i d p hd).mono fun fl σ' h => ?_) (fun p _ => done p) hs
  cases fl with
  | next => obtain ⟨p, h⟩ := h; exact ⟨p, trivial, h⟩
  | cont => obtain ⟨p, h⟩ := h; exact ⟨p, trivial, h⟩
  | brk => exact h
  | ret r => exact h
end
end Mine
end
section
open PySem PySem.W PyProof.Rows PySem.Calls
set_option maxRecDepth 100000
namespace Mine
section
variable {G : Gr} {n : Nat} {env : Env} {σ : St} {sc : Scope}
theorem fn_ev {d : DefRec} {a : Addr} {p : Pos} (F : FnAt G d a) (hk : env.kindOf d.name = some .globalImplicit) (hd : (d.name == ("__debug__" : Str)) = false := by decide) : Ev G n env σ (.Name d.name p) (.raw (.ref a)) :=
  .global hk F.name (fun _ _ => .raw _) hd
theorem FnAt.callee {d : DefRec} {a : Addr} (F : FnAt G d a) : Callee G (.ref a) := by
  obtain ⟨o, pm, code, doc, h1, h2, _⟩ := F.obj
  exact .fn h1 h2
theorem CallD.fn1 {d : DefRec} {a : Addr} {d1 r : D} {x : Str} (F : FnAt G d a) (h : ∀ env, FEnv env d.scope → Ex G n env [(x, .val d1)] d.body fun fl _ => fl = .ret r)
    (hx : d.params.args.map (·.arg) = [x] := by rfl) (hb : ∀ pm code doc v, bindArgs (docDef d.name d.params d.body d.scope pm code doc) ⟨[v], []⟩ = pure [(x, v)] := by intros; rfl)
    (hkind : (d.params.args.all fun y => d.scope.names.lookup y.arg == some .local || d.scope.names.lookup y.arg == some .cell) = true := by rfl)
    (hco : d.scope.isCoroutine = false := by rfl) (hgen : d.scope.isGenerator = false := by rfl) (hk : d.scope.kind = .function := by rfl) : CallD G (n + 1) (.ref a) [d1] r := by
  refine CallD.def F (by rw [← List.length_map (f := fun y : Arg => y.arg), hx]; rfl) (fun pm code doc vs hl => ?_) hkind (by rw [hx]; simp) (fun env FE => ?_) hco hgen hk
  · rw [hx]
    obtain ⟨v, rfl⟩ := List.length_eq_one_iff.mp hl
    exact hb pm code doc v
  · rw [hx]; exact h env FE
theorem CallD.fn2 {d : DefRec} {a : Addr} {d1 d2 r : D} {x y : Str} (F : FnAt G d a) (h : ∀ env, FEnv env d.scope → Ex G n env [(x, .val d1), (y, .val d2)] d.body fun fl _ => fl = .ret r)
    (hx : d.params.args.map (·.arg) = [x, y] := by rfl) (hxy : x ≠ y := by decide) (hb : ∀ pm code doc v w, bindArgs (docDef d.name d.params d.body d.scope pm code doc) ⟨[v, w], []⟩ = pure [(x, v), (y, w)] := by intros; rfl)
    (hkind : (d.params.args.all fun y => d.scope.names.lookup y.arg == some .local || d.scope.names.lookup y.arg == some .cell) = true := by rfl)
    (hco : d.scope.isCoroutine = false := by rfl) (hgen : d.scope.isGenerator = false := by rfl) (hk : d.scope.kind = .function := by rfl) : CallD G (n + 1) (.ref a) [d1, d2] r := by
  refine CallD.def F (by rw [← List.length_map (f := fun y : Arg => y.arg), hx]; rfl) (fun pm code doc vs hl => ?_) hkind (by rw [hx]; simp [hxy]) (fun env FE => ?_) hco hgen hk
  · rw [hx]
    match vs, hl with
    | [v, w], _ => exact hb pm code doc v w
  · rw [hx]; exact h env FE
/-- while with a test that makes something -/
theorem Ex.whileT (P : Shared → Prop) {ι : Type} {test : Expr} {body rest : List Stmt} {pos : Pos} {Q : Fl → St → Prop} (S : ι → St) (m : ι → Nat) (c : ι → Bool) (p₀ : ι) (h0 : Sub (S p₀) σ) (nd : ∀ p, ((S p).map (·.1)).Nodup)
    (ht : ∀ p ok A s E, Room n A → G.base.StaysIn s.heap → Inv G.base ok env (S p) s.heap → wpAny G.M A (isTrue test env (eval test env)) (fun r s' => (Stp G.base s s' ∧ r = c p) ∧ P s') E s)
    (turn : ∀ p, c p = true → ∀ ok A s E, P s → Room n A → G.base.StaysIn s.heap → Inv G.base ok env (S p) s.heap → wpAny G.M A (execs body env) (After G env (S p) ok s fun fl σ₂ => match fl with
      | .next | .cont => ∃ p', m p' < m p ∧ Sub (S p') σ₂
      | .brk => Ex G n env σ₂ rest Q
      | .ret r => Q (.ret r) σ₂) E s)
    (done : ∀ p, c p = false → Ex G n env (S p) rest Q) : Ex G n env σ (.While test body [] pos :: rest) Q := by
  refine Ex.cons (Ex1.only h0 (fun ok A s E r k i => ?_) (nd _))
  refine wpAny_While ?_
  refine codeAny_whileLoop (fun q s' => ∃ p, q = m p ∧ Inv G.base ok env (S p) s'.heap ∧ Mv G.base (Wr env (S p₀)) s s' ∧ G.base.StaysIn s'.heap ∧ ∀ a ∈ owned (S p), a ∈ owned (S p₀) ∨ s.heap.get? a = none) ?_ (m p₀) ⟨p₀, rfl, i, Stp.refl.mv, k, fun _ h => .inl h⟩
  rintro _ s' ⟨p, rfl, i', mv, k', ow⟩
  refine wpAny_mono (ht p ok A s' _ r k' i') (fun b s₂ q => ?_) fun _ _ x => x
  obtain ⟨⟨st, rfl⟩, htk⟩ := q
  have mv₂ : Mv G.base (Wr env (S p₀)) s s₂ := mv.trans (st.mv (W := fun _ => False)) fun _ f => f.elim
  have k₂ := st.ext.base k'
  have i₂ := i'.ext st.ext
  cases hc : c p with
  | true =>
    rw [if_pos rfl]
    refine wpAny_mono (turn p hc ok A s₂ _ htk r k₂ i₂) (fun f s₃ a => ?_) fun _ _ x => x
    obtain ⟨fl, σ', q, fi, i₃, m₃, k₃, o₃⟩ := a
    have mv₃ : Mv G.base (Wr env (S p₀)) s s₃ := mv₂.trans m₃ fun b w => by
      rcases w with w | w
      · exact .inl (.inl w)
      · exact (ow b w).imp .inr id
    have o₃' : ∀ a ∈ owned σ', a ∈ owned (S p₀) ∨ s.heap.get? a = none := fun a w => by
      rcases o₃ a w with w | w
      · exact ow a w
      · exact .inr (mv₂.dom a w)
    cases f <;> cases fl <;> first | exact fi.elim | skip
    · obtain ⟨p', hm, hs⟩ := q
      exact ⟨m p', hm, p', rfl, i₃.sub hs (Sub.nodup i₃.once (nd p') hs), mv₃, k₃, fun a w => o₃' a (hs.owned a w)⟩
    · exact ⟨.next, σ', q, trivial, i₃, mv₃, k₃, o₃'⟩
    · obtain ⟨p', hm, hs⟩ := q
      exact ⟨m p', hm, p', rfl, i₃.sub hs (Sub.nodup i₃.once (nd p') hs), mv₃, k₃, fun a w => o₃' a (hs.owned a w)⟩
    · exact ⟨.ret _, σ', q, fi, i₃, mv₃, k₃, o₃'⟩
  | false =>
    rw [if_neg (by simp)]
    exact wpAny_execs_nil ⟨.next, S p, done p hc, trivial, i₂, mv₂, k₂, ow⟩
theorem Ex.whileS {ι : Type} {test : Expr} {body rest : List Stmt} {pos : Pos} {Q : Fl → St → Prop} (S : ι → St) (m : ι → Nat) (c : ι → Bool) (p₀ : ι) (h0 : Sub (S p₀) σ) (nd : ∀ p, ((S p).map (·.1)).Nodup)
    (ht : ∀ p, Tr G n env (S p) test (c p))
    (turn : ∀ p, c p = true → Ex G n env (S p) body fun fl σ₂ => match fl with
      | .next | .cont => ∃ p', m p' < m p ∧ Sub (S p') σ₂
      | .brk => Ex G n env σ₂ rest Q
      | .ret r => Q (.ret r) σ₂)
    (done : ∀ p, c p = false → Ex G n env (S p) rest Q) : Ex G n env σ (.While test body [] pos :: rest) Q :=
  Ex.whileT (fun _ => True) S m c p₀ h0 nd (fun p ok A s E r k i => wpAny_mono (ht p ok A s E r k i) (fun _ _ q => ⟨q, trivial⟩) fun _ _ x => x) (fun p hp ok A s E _ r k i => turn p hp ok A s E r k i) done
end
end Mine
end
section
open PySem PySem.W PyProof.Rows PySem.Calls
set_option maxRecDepth 100000
namespace Mine
section
variable {p : Program} {loose : List Str} {mean : ExcName → Option Value} {mg mb : Str → Option Value} {s₁ : Shared} {prog : Program} {w : World}
/-- the ground behind the top -/
def groundOf (T : Top p loose mean mg mb s₁.heap) (prog : Program) (w : World) : Gr := ⟨prog, w, s₁.heap, mg, mb, T.g, T.b, T.builtins, T.nolimit⟩
theorem fnAt_of (T : Top p loose mean mg mb s₁.heap) {d : DefRec} (j : Nat) (h : (recsOf p)[j]? = some d) : ∃ a, FnAt (groundOf T prog w) d a := by
  obtain ⟨a, o, pm, code, doc, h1, h2, h3, h4⟩ := T.fn d (List.mem_of_getElem? h)
  exact ⟨a, h1, o, pm, code, doc, h2, h3, h4⟩
theorem fnAt_law (T : Top p loose mean mg mb s₁.heap) {d : DefRec} {fa : Addr} (hmg : mg d.name = some (.ref fa)) (j : Nat) (h : (recsOf p)[j]? = some d) : FnAt (groundOf T prog w) d fa := by
  obtain ⟨a, F⟩ := fnAt_of (prog := prog) (w := w) T j h
  have : mg d.name = some (.ref a) := F.name
  rw [hmg] at this; cases this
  exact F
theorem free_of (T : Top p loose mean mg mb s₁.heap) (x : Str) (h : (startupNames.contains x || loose.contains x || ((recsOf p).map (·.name)).contains x || ((litsOf p).map (·.1)).contains x || ((clssOf p loose).map (·.name)).contains x) = false) : (groundOf T prog w).mg x = none := by
  simp only [Bool.or_eq_false_iff] at h
  have q : ∀ {l : List Str}, l.contains x = false → x ∉ l := fun hl hm => by rw [List.contains_iff_mem.mpr hm] at hl; cases hl
  exact T.free x (q h.1.1.1.1) (q h.1.1.1.2) (q h.1.1.2) (q h.1.2) (q h.2)
theorem rep_ints {ok : Addr → Prop} {h : Heap} : ∀ {vs : List Value} {ns : List Int}, IntsAre vs ns → RepAll ok h vs (ns.map .int)
  | _, _, .nil => .nil
  | _, _, .cons n t r => .cons (.int n t) (rep_ints r)
end
end Mine
end
section
open PySem PySem.W PyProof.Rows PySem.Calls
set_option maxRecDepth 100000
namespace Mine
open Builtin.Str StrLaws
/-- the places of a sign, at most k of them -/
def pos (c : Nat) : Nat → Nat → List Nat → List Nat
  | _, _, [] => []
  | 0, _, _ => []
  | k + 1, a, x :: r => if x = c then a :: pos c k (a + 1) r else pos c (k + 1) (a + 1) r
abbrev S (l : List Nat) : Str := ⟨l.toArray⟩
theorem S_length (l : List Nat) : (S l).length = l.length := by show l.toArray.size = _; simp
end Mine
end
section
open PySem PySem.W PyProof.Rows PySem.Calls
set_option maxRecDepth 100000
namespace Mine
/-- good code points -/
def Good (l : List Nat) : Prop := ∀ c ∈ l, c < 1114112
theorem Good.data {l : List Nat} (h : Good l) {n : Nat} : (D.str (S l)).data n = true := by
  have : PyData.strOk (S l) = true := by
    unfold PyData.strOk
    rw [Array.all_eq_true']
    intro c hc
    simpa using h c (by simpa using hc)
  cases n <;> exact this
end Mine
end
section
open PySem PySem.W PyProof.Rows PySem.Calls
set_option maxRecDepth 100000
namespace Mine
section
variable {G : Gr} {n : Nat} {env : Env} {σ : St} {sc : Scope}
theorem fresh_not_wr {base : Heap} {ok : Addr → Prop} {h : Heap} {a : Addr} (i : Inv base ok env σ h) (h0 : h.get? a = none) : ¬ Wr env σ a := by
  rintro ((w | ⟨x, w⟩) | w)
  · obtain ⟨m, o, _, _, q, _⟩ := i.frame.ns; rw [← w, h0] at q; cases q
  · obtain ⟨_, o, q, _⟩ := i.frame.cells x a w; rw [h0] at q; cases q
  · obtain ⟨vs, l⟩ := i.there a w; have := l.some; rw [h0] at this; cases this
end
end Mine
end
section
open PySem PySem.W PyProof.Rows PySem.Calls
set_option maxRecDepth 100000
namespace Mine
section
variable {G : Gr} {n : Nat} {env : Env} {σ : St} {sc : Scope}
def nodeType (T : String) : Bool := (["list", "tuple", "slice", "range"] : List String).contains T
theorem not_node {h : Heap} {a : Addr} {o : Obj} {T : String} (e : h.get? a = some o) (c : o.cls = .type T) (hT : nodeType T = false) : ¬ IsNode h a := fun nd => by
  cases nd with
  | list l => obtain ⟨o₂, e₂, c₂, _⟩ := l; rw [e] at e₂; cases e₂; rw [c] at c₂; cases c₂; cases hT
  | tup l => obtain ⟨o₂, e₂, c₂, _⟩ := l; rw [e] at e₂; cases e₂; rw [c] at c₂; cases c₂; cases hT
  | slice e₂ c₂ _ => rw [e] at e₂; cases e₂; rw [c] at c₂; cases c₂; cases hT
  | rng e₂ => unfold IsRange at e₂; rw [e] at e₂; cases e₂; cases c; cases hT
theorem node_keep {base : Heap} {W : Addr → Prop} {h h' : Heap} {b : Addr} {o : Obj} (x : ExtBut base W h h') (nd : IsNode h b) (w : ¬ W b) (e : h.get? b = some o) : h'.get? b = some o := by
  obtain ⟨o', e', _, _, k'⟩ := x b o w e
  rw [e', k' (.inr ?_)]
  cases nd with
  | list l => obtain ⟨o₂, e₂, _, k, d⟩ := l; rw [e] at e₂; cases e₂; rw [d]; rfl
  | tup l => obtain ⟨o₂, e₂, _, k, d⟩ := l; rw [e] at e₂; cases e₂; rw [d]; rfl
  | slice e₂ _ d => rw [e] at e₂; cases e₂; rw [d]; rfl
  | rng e₂ => unfold IsRange at e₂; rw [e] at e₂; cases e₂; rfl
theorem MvI.of_keepL {base : Heap} {l : List Addr} {s : Shared} {h' : Heap} {tk : Nat} (h : ∀ b o, b ∉ l → s.heap.get? b = some o → h'.get? b = some o) : MvI base (· ∈ l) (fun _ => False) s { s with heap := h', toks := tk } :=
  ⟨fun b o w e => ⟨o, h b o w e, rfl, rfl, fun _ => rfl⟩, fun b w e => (by
    cases q : s.heap.get? b with
    | none => rfl
    | some o => (have := h b o w q; rw [show h'.get? b = none from e] at this; cases this)), rfl, fun _ _ _ e => e, fun q => q⟩
/-- numbered -/
def enumL (ds : List D) : List D := ds.zipIdx.map fun p => .tuple [.int (p.2 : Nat), p.1]
theorem enumL_get {ds : List D} {i : Nat} {d : D} : (enumL ds)[i]? = some d ↔ ∃ e, ds[i]? = some e ∧ d = .tuple [.int (i : Nat), e] := by
  unfold enumL
  rw [List.getElem?_map, List.getElem?_zipIdx]
  cases ds[i]? <;> simp [eq_comm]
theorem enumL_length (ds : List D) : (enumL ds).length = ds.length := by simp [enumL]
end
end Mine
end
section
open PySem PySem.W PyProof.Rows PySem.Calls
set_option maxRecDepth 100000
namespace Mine
def Sg (M : Model) (A : Around) (P : End → Shared → Prop) (c : Code) (t : Sem Fin) (fs : List PySem.Frame) (s : Shared) : Prop :=
  ∀ Γ p, Γ.code = c → Γ.Woken A → ∃ e s', Runs M Γ p t fs s e s' ∧ P e s'
section
variable {M : Model} {A : Around} {P : End → Shared → Prop} {c : Code} {fs : List PySem.Frame} {s : Shared}
theorem Sg.wrap {α : Type} {m : Sem α} {K : α → Sem Fin} {H : Value → Sem Fin} {gd : Bool → Bool} {lv : List Value → List Value} (h : wpAny M (A.over c fs) m (fun a s' => Sg M A P c (K a) fs s') (fun x s' => Sg M A P c (H x) fs s') s) :
    Sg M A P c (m.wrap K H gd lv) fs s := fun Γ p hc hw => by
  subst hc
  exact runs_wrap_of_wp K H gd lv m (h (Γ.over fs) p (hw.over fs)) (fun a p' s' q => q Γ p' rfl hw) fun x p' s' q => q Γ p' rfl hw
theorem Sg.stand {q : Pos} {k : Unit → Sem Fin} (h : Sg M A P c (k ()) fs s) : Sg M A P c (.at q k) fs s := .wrap (m := standAt q) (H := .raise) (gd := id) (lv := id) (wpAny_standAt h)
theorem Sg.mark {l : List Value} {k : Unit → Sem Fin} (h : Sg M A P c (k ()) fs s) : Sg M A P c (.point l k) fs s := .wrap (m := point) (H := .raise) (gd := id) (lv := fun _ => l) (wpAny_point h)
theorem Sg.enter {c' : Code} {h : Option Value} {g : Bool} {l : List Value} {k : Result → Sem Fin} (q : ∀ p, Sg M A P c' (M.den c') (.ret k h g l c p [] :: fs) s) : Sg M A P c (.call c' h g l k) fs s := fun Γ p hc hw => by
  subst hc
  obtain ⟨e, s', hr, he⟩ := q p (Γ.goto c') p rfl (hw.goto c')
  exact ⟨e, s', runs_call_seg hr, he⟩
theorem Sg.back {k : Result → Sem Fin} {h : Option Value} {g : Bool} {l : List Value} {c₁ : Code} {p₁ : Pos} {kp : List Value} (r : Result) (q : Sg M A P c₁ (k r) fs s) : Sg M A P c (leafOf r) (.ret k h g l c₁ p₁ kp :: fs) s := fun Γ p hc hw => by
  subst hc
  obtain ⟨e, s', hr, he⟩ := q (Γ.goto c₁) p₁ rfl (hw.goto c₁)
  exact ⟨e, s', Runs.pop r hr, he⟩
theorem Sg.again {c' : Code} (hq : c'.quiet = true) (q : Sg M A P c' (M.den c') fs s) : Sg M A P c (.pure (.again c')) fs s := fun Γ p hc hw => by
  subst hc
  obtain ⟨e, s', hr, he⟩ := q (Γ.goto c') p rfl (hw.goto c')
  exact ⟨e, s', Runs.head (c₁ := c') (fun _ _ x => .again hq x) hr, he⟩
theorem Sg.fin (r : Result) (h : P (.ret r) s) : Sg M A P c (leafOf r) [] s := fun Γ p hc _ => ⟨_, s, Runs.leaf r, h⟩
theorem Sg.out {v : Value} {g : Bool} {l : List Value} {k : Resume → Sem Fin} (hfs : splitAtGen fs = none) (h : ∀ p, P (.susp v g l k c p fs) s) : Sg M A P c (.yield v g l k) fs s := fun Γ p hc _ => by
  subst hc
  exact ⟨_, s, Runs.yield' fs hfs, h p⟩
/-- a generator's state goes on -/
def Goes1 (M : Model) (A : Around) (P : End → Shared → Prop) (gs : GenState) (s : Shared) : Prop := match gs with
  | .fresh c => Sg M A P c (M.den c) [] s
  | .suspended k _ c _ fs _ => Sg M A P c (k (.send .none)) fs s
  | _ => False
theorem wake1 {E : Value → Shared → Prop} {g : Nat} {gs : GenState} {l : List Value} {α : Type} {k : GenResult → Sem α} {Q : α → Shared → Prop} (hg : s.gens[g]? = some gs) (hgo : Goes1 M A P gs (s.setGen g .running)) (hq : ∀ e s', P e s' → e.quiet = true)
    (h : ∀ e s₁, P e s₁ → wpAny M A (k e.result) Q E (s₁.setGen g e.genState)) : wpAny M A (.resume g (.send .none) l k) Q E s := fun Γ p hΓ => by
  rw [Sem.wp_resume]
  cases gs with
  | fresh c =>
    obtain ⟨e, s₁, hr, he⟩ := hgo (Γ.wake c p) p rfl (hΓ.wake c p)
    refine ⟨e.result, s₁.setGen g e.genState, ?_, h e s₁ he Γ p hΓ⟩
    unfold Wakes; rw [hg]; exact ⟨e, s₁, hr, hq e s₁ he, rfl, rfl⟩
  | suspended k₀ l₀ c₀ p₀ fs₀ cl =>
    obtain ⟨e, s₁, hr, he⟩ := hgo (Γ.wake c₀ p) p₀ rfl (hΓ.wake c₀ p)
    refine ⟨e.result, s₁.setGen g e.genState, ?_, h e s₁ he Γ p hΓ⟩
    unfold Wakes; rw [hg]; exact ⟨e, s₁, hr, hq e s₁ he, rfl, rfl⟩
  | running => exact hgo.elim
  | finished => exact hgo.elim
end
section
variable {prog : Program} {w : World} {A : Around} {E : Value → Shared → Prop} {s : Shared} {P : End → Shared → Prop}
end
end Mine
end
section
open PySem PySem.W PyProof.Rows PySem.Calls
set_option maxRecDepth 100000
namespace Mine
/-- what others may do while a generator sleeps -/
def Cpt (base : Heap) (okc F : Addr → Prop) (h h₁ : Heap) : Prop := ∃ W : Addr → Prop, ExtBut base W h h₁ ∧ (∀ b, h₁.get? b = none → h.get? b = none) ∧ (∀ a, F a → ¬ W a) ∧ ∀ a, okc a → IsNode h a → ¬ W a
theorem node_fwd {base : Heap} {W : Addr → Prop} {h h' : Heap} {a : Addr} (x : ExtBut base W h h') (w : ¬ W a) (nd : IsNode h a) : IsNode h' a := by
  cases nd with
  | list l => obtain ⟨o, e, r⟩ := l; exact .list ⟨o, node_keep x (.list ⟨o, e, r⟩) w e, r⟩
  | tup l => obtain ⟨o, e, r⟩ := l; exact .tup ⟨o, node_keep x (.tup ⟨o, e, r⟩) w e, r⟩
  | slice e c d => exact .slice (node_keep x (.slice e c d) w e) c d
  | rng e => exact .rng (node_keep x (.rng e) w e)
theorem node_back {base : Heap} {W : Addr → Prop} {h h' : Heap} {a : Addr} (x : ExtBut base W h h') (w : ¬ W a) (hs : (h.get? a).isSome = true) (nd : IsNode h' a) : IsNode h a := by
  obtain ⟨o, e⟩ := Option.isSome_iff_exists.mp hs
  obtain ⟨o', e', c', d', k'⟩ := x a o w e
  cases nd with
  | list l => obtain ⟨o₂, e₂, c₂, n, d₂⟩ := l; rw [e'] at e₂; cases e₂; exact .list ⟨o, e, c'.symm.trans c₂, n, d'.symm.trans d₂⟩
  | tup l => obtain ⟨o₂, e₂, c₂, n, d₂⟩ := l; rw [e'] at e₂; cases e₂; exact .tup ⟨o, e, c'.symm.trans c₂, n, d'.symm.trans d₂⟩
  | slice e₂ c₂ d₂ => rw [e'] at e₂; cases e₂; exact .slice e (c'.symm.trans c₂) (d'.symm.trans d₂)
  | rng e₂ =>
    unfold IsRange at e₂
    rw [e'] at e₂; cases e₂
    have := k' (.inr (by rw [← d']; rfl))
    exact .rng (by unfold IsRange; rw [e, ← this])
theorem ExtBut.weak {base : Heap} {W W' : Addr → Prop} {h h' : Heap} (x : ExtBut base W h h') (k : ∀ a, W a → W' a) : ExtBut base W' h h' := fun b o w e => x b o (fun q => w (k b q)) e
theorem ExtBut.trans {base : Heap} {W : Addr → Prop} {h h' h'' : Heap} (x : ExtBut base W h h') (y : ExtBut base W h' h'') : ExtBut base W h h'' := fun b o w e => by
  obtain ⟨o', e', c', d', k'⟩ := x b o w e
  obtain ⟨o'', e'', c'', d'', k''⟩ := y b o' w e'
  refine ⟨o'', e'', c''.trans c', d''.trans d', fun q => ?_⟩
  have := k' q; subst this
  exact k'' q
theorem Cpt.refl {base : Heap} {okc F : Addr → Prop} {h : Heap} : Cpt base okc F h h := ⟨fun _ => False, fun b o _ e => ⟨o, e, rfl, rfl, fun _ => rfl⟩, fun _ e => e, fun _ _ h => h, fun _ _ _ h => h⟩
theorem Cpt.trans {base : Heap} {okc F : Addr → Prop} {a b c : Heap} (x : Cpt base okc F a b) (y : Cpt base okc F b c) : Cpt base okc F a c := by
  obtain ⟨W, m, q, h1, h2⟩ := x
  obtain ⟨W', m', q', h1', h2'⟩ := y
  refine ⟨fun p => W p ∨ W' p, (m.weak fun p h => .inl h).trans (m'.weak fun p h => .inr h), fun p e => q p (q' p e), fun p hp h => h.elim (h1 p hp) (h1' p hp), fun p hp nd h => ?_⟩
  rcases h with h | h
  · exact h2 p hp nd h
  · exact h2' p hp (node_fwd m (h2 p hp nd) nd) h
theorem setGen_get {s : Shared} {g : Nat} {x : GenState} (h : (s.gens[g]?).isSome = true) : (s.setGen g x).gens[g]? = some x := by
  obtain ⟨y, e⟩ := Option.isSome_iff_exists.mp h
  obtain ⟨hi, _⟩ := Array.getElem?_eq_some_iff.mp e
  show (s.gens.setIfInBounds g x)[g]? = _
  simp [hi]
theorem setGen_ne {s : Shared} {g i : Nat} {x : GenState} (h : i ≠ g) : (s.setGen g x).gens[i]? = s.gens[i]? := by
  show (s.gens.setIfInBounds g x)[i]? = _
  rw [Array.getElem?_setIfInBounds_ne (Ne.symm h)]
theorem setGen_bare {s : Shared} {g : Nat} {x : GenState} (h : ∀ y ∈ s.gens, y.bare = true) (hx : x.bare = true) : ∀ y ∈ (s.setGen g x).gens, y.bare = true := fun y hy => by
  obtain ⟨i, hi, rfl⟩ := Array.mem_iff_getElem.mp hy
  by_cases e : i = g
  · subst e
    have hi' : i < s.gens.size := by simpa [Shared.setGen] using hi
    have : (s.gens.setIfInBounds i x)[i]? = some x := by simp [hi']
    have h2 := Array.getElem?_eq_getElem (xs := (s.setGen i x).gens) hi
    have h3 : (s.setGen i x).gens[i]? = some x := this
    rw [h3] at h2; rw [← Option.some.inj h2]; exact hx
  · have h2 := Array.getElem?_eq_getElem (xs := (s.setGen g x).gens) hi
    rw [setGen_ne e] at h2
    exact h _ (Array.mem_of_getElem? h2)
theorem bare_of_quiet {e : End} (h : e.quiet = true) : e.genState.bare = true := End.bare_of_quiet h
section
variable {G : Gr} {n : Nat} {env : Env} {σ : St} {sc : Scope}
theorem isGen_node {h : Heap} {I : Addr} {g : Nat} (q : h.IsGen I g) : ¬ IsNode h I ∧ (h.get? I).isSome = true := by
  obtain ⟨o, nm, qn, e, c, d, sl⟩ := q
  exact ⟨not_node e c rfl, by rw [e]; rfl⟩
theorem isGen_mv {base : Heap} {W : Addr → Prop} {h h' : Heap} {I : Addr} {g : Nat} (x : ExtBut base W h h') (w : ¬ W I) (q : h.IsGen I g) : h'.IsGen I g := by
  obtain ⟨o, nm, qn, e, c, d, sl⟩ := q
  obtain ⟨o', e', c', d', k'⟩ := x I o w e
  have : o' = o := k' (.inr (by rw [d]; rfl))
  subst this
  exact ⟨o', nm, qn, e', c, d, sl⟩
theorem MvI.unset {base : Heap} {F : Addr → Prop} {g : Nat} {s s₁ : Shared} {x : GenState} (m : MvI base F (· = g) (s.setGen g .running) s₁) (hx : x.bare = true) : MvI base F (· = g) s (s₁.setGen g x) :=
  ⟨m.ext, m.dom, m.os, fun i y hi e => by rw [setGen_ne hi]; exact m.gkeep i y hi (by rw [setGen_ne hi]; exact e), fun q => setGen_bare (m.gbare (setGen_bare q rfl)) hx⟩
theorem MvI.weak {base : Heap} {F F' : Addr → Prop} {wg : Nat → Prop} {s s' : Shared} (m : MvI base F wg s s') (h : ∀ a, F a → F' a) : MvI base F' wg s s' := ⟨m.ext.weak h, fun b w e => m.dom b (fun q => w (h b q)) e, m.os, m.gkeep, m.gbare⟩
theorem MvI.heap {base : Heap} {F : Addr → Prop} {wg : Nat → Prop} {s s' : Shared} {h' : Heap} (m : MvI base F wg s s') (k : ∀ b o, s'.heap.get? b = some o → h'.get? b = some o) : MvI base F wg s { s' with heap := h' } :=
  ⟨fun b o w e => by
    obtain ⟨o', e', r⟩ := m.ext b o w e
    exact ⟨o', k b o' e', r⟩, fun b w e => m.dom b w (by
    cases q : s'.heap.get? b with
    | none => rfl
    | some o => have := k b o q; rw [show h'.get? b = none from e] at this; cases this), m.os, m.gkeep, m.gbare⟩
end
end Mine
end
section
open PySem PySem.W PyProof.Rows PySem.Calls
set_option maxRecDepth 100000
namespace Mine
section
variable {G : Gr} {n : Nat} {env : Env} {σ : St} {sc : Scope} {A : Around} {okc : Addr → Prop} {g : Nat} {c : Code} {fs : List PySem.Frame} {FR : Addr → Prop} {Res : Heap → Prop} {ds : List D}
  {K : Flow → Sem Fin} {H : Value → Sem Fin} {gd : Bool → Bool} {lv : List Value → List Value}
theorem MvI.thenMv {base : Heap} {F W : Addr → Prop} {wg : Nat → Prop} {s s₁ s₂ : Shared} (i : MvI base F wg s s₁) (m : Mv base W s₁ s₂) (h : ∀ a, W a → F a ∨ s.heap.get? a = none) : MvI base F wg s s₂ := by
  refine ⟨fun b o w e => ?_, fun b w e => i.dom b w (m.dom b e), m.os.trans i.os, fun j x hj e => m.gens.keep j x (i.gkeep j x hj e), fun q => m.gens.bare (i.gbare q)⟩
  obtain ⟨o', e', c', d', k'⟩ := i.ext b o w e
  obtain ⟨o'', e'', c'', d'', k''⟩ := m.ext b o' (fun z => (h b z).elim w fun z => by rw [z] at e; cases e) e'
  refine ⟨o'', e'', c''.trans c', d''.trans d', fun q => ?_⟩
  have := k' q; subst this
  exact k'' q
/-- all that the frame knows is of one piece -/
def Plain : St → Bool
  | [] => true
  | (_, .val d) :: r => Atomic d && Plain r
  | (_, .own _ _) :: _ => false
theorem Plain.get {x : Str} {d : D} : ∀ {σ : St}, Plain σ = true → σ.lookup x = some (.val d) → Atomic d = true
  | (y, .val e) :: r, h, l => by
    rw [Plain, Bool.and_eq_true] at h
    rw [List.lookup_cons] at l
    cases q : x == y with
    | true => rw [q] at l; cases l; exact h.1
    | false => rw [q] at l; exact Plain.get h.2 l
theorem Plain.noOwn {x : Str} {a : Addr} {es : List D} : ∀ {σ : St}, Plain σ = true → σ.lookup x ≠ some (.own a es)
  | [], _ => nofun
  | (y, .val e) :: r, h => by
    rw [Plain, Bool.and_eq_true] at h
    rw [List.lookup_cons]
    cases x == y with
    | true => exact nofun
    | false => exact Plain.noOwn h.2
theorem Plain.owned : ∀ {σ : St}, Plain σ = true → Mine.owned σ = []
  | [], _ => rfl
  | (y, .val e) :: r, h => by rw [Plain, Bool.and_eq_true] at h; exact Plain.owned (σ := r) h.2
end
end Mine
end
section
open PySem PySem.W PyProof.Rows PySem.Calls
set_option maxRecDepth 100000
namespace Mine
section
variable {G : Gr} {n : Nat} {env : Env} {σ : St} {sc : Scope} {A : Around} {okc : Addr → Prop} {g : Nat} {c : Code} {fs : List PySem.Frame} {FR : Addr → Prop} {Res : Heap → Prop} {ds : List D}
  {K : Flow → Sem Fin} {H : Value → Sem Fin} {gd : Bool → Bool} {lv : List Value → List Value}
theorem Sg.bindw {M : Model} {P : End → Shared → Prop} {s : Shared} {α β : Type} {m : Sem α} {f : α → Sem β} {K : β → Sem Fin} (h : wpAny M (A.over c fs) m (fun a s' => Sg M A P c ((f a).wrap K H gd lv) fs s') (fun x s' => Sg M A P c (H x) fs s') s) :
    Sg M A P c ((m >>= f).wrap K H gd lv) fs s := by
  rw [Sem.bind_eq_wrap', Sem.wrap_wrap]; exact .wrap h
theorem over_loop {A : Around} {target : Expr} {it : Value} {body : List Stmt} {env : Env} {k : Result → Sem Fin} {gb : Bool} {l : List Value} {c : Code} {p : Pos} {fs : List PySem.Frame} (r : Room n (A.over c fs)) :
    Room n (A.over (.forLoop target it body [] env) (.ret k none gb l c p [] :: fs)) := by
  refine ⟨?_, ?_, ?_⟩
  · have := r.handled
    simpa [Around.over, marksOver, Frame.marks, markOver] using this
  · have := r.depth
    have e : (Code.forLoop target it body [] env).weight = 0 := rfl
    simp only [Around.over, List.map_cons, Frame.where_, frameCount_cons, e] at this ⊢
    omega
  · have := r.units
    have e : (Code.forLoop target it body [] env).cUnits = 0 := rfl
    simp only [Around.over, List.map_cons, Frame.where_, unitsOf_cons, e] at this ⊢
    omega
theorem MvI.thenI {base : Heap} {F fp : Addr → Prop} {wg wg' : Nat → Prop} {s s₁ s₂ : Shared} (i : MvI base F wg s s₁) (m : MvI base fp wg' s₁ s₂) (h : ∀ a, fp a → F a ∨ s.heap.get? a = none) (hg : ∀ g, wg' g → wg g) : MvI base F wg s s₂ := by
  refine ⟨fun b o w e => ?_, fun b w e => ?_, m.os.trans i.os, fun j x hj e => m.gkeep j x (fun q => hj (hg j q)) (i.gkeep j x hj e), fun q => m.gbare (i.gbare q)⟩
  · obtain ⟨o', e', c', d', k'⟩ := i.ext b o w e
    obtain ⟨o'', e'', c'', d'', k''⟩ := m.ext b o' (fun z => (h b z).elim w fun z => by rw [z] at e; cases e) e'
    refine ⟨o'', e'', c''.trans c', d''.trans d', fun q => ?_⟩
    have := k' q; subst this
    exact k'' q
  · by_cases z : fp b
    · exact (h b z).elim (fun q => absurd q w) id
    · exact i.dom b w (m.dom b z e)
end
end Mine
end
section
open PySem PySem.W PyProof.Rows PySem.Calls
set_option maxRecDepth 100000
namespace Mine
section
variable {G : Gr} {n : Nat} {env : Env} {σ : St} {sc : Scope} {A : Around} {okc : Addr → Prop} {g : Nat} {c : Code} {fs : List PySem.Frame} {FR : Addr → Prop} {Res : Heap → Prop} {ds : List D}
  {K : Flow → Sem Fin} {H : Value → Sem Fin} {gd : Bool → Bool} {lv : List Value → List Value}
/-- a sleeping frame that knows plain values alone wakes as it was -/
theorem Inv.wake {base : Heap} {ok ok' : Addr → Prop} {W : Addr → Prop} {h h' : Heap} (i : Inv base ok env σ h) (hp : Plain σ = true) (x : ExtBut base W h h') (hf : ∀ a, FrW env a → ¬ W a) (fr : FreshOk ok' h') : Inv base ok' env σ h' := by
  have hno := Plain.owned hp
  have hh : ∀ y v, Holds env h y v → Holds env h' y v := fun y v q => by
    rcases q with ⟨k, mm, hns, rr⟩ | ⟨k, cc, hcc, rr⟩
    · obtain ⟨o, es, ep, e, d, rr'⟩ := hns
      obtain ⟨o', e', _, d', _⟩ := x _ o (hf _ (.inl rfl)) e
      exact .inl ⟨k, mm, ⟨o', es, ep, e', d'.trans d, rr'⟩, rr⟩
    · obtain ⟨o, e, d⟩ := rr
      obtain ⟨o', e', _, d', _⟩ := x _ o (hf _ (.inr ⟨y, hcc⟩)) e
      exact .inr ⟨k, cc, hcc, o', e', d'.trans d⟩
  refine ⟨⟨i.frame.kind, ?_, fun y cc q => ?_, i.frame.apart, i.frame.away, i.frame.glob, i.frame.blt⟩, i.off, fr, fun y dd l => ?_, fun y a es l => absurd l (Plain.noOwn hp), fun a w => ?_, i.once⟩
  · obtain ⟨mm, o, es, ep, e, d, rr⟩ := i.frame.ns
    obtain ⟨o', e', _, d', _⟩ := x _ o (hf _ (.inl rfl)) e
    exact ⟨mm, o', es, ep, e', d'.trans d, rr⟩
  · obtain ⟨v, o, e, d⟩ := i.frame.cells y cc q
    obtain ⟨o', e', _, d', _⟩ := x _ o (hf _ (.inr ⟨y, q⟩)) e
    exact ⟨v, o', e', d'.trans d⟩
  · obtain ⟨u, p, rr⟩ := i.vals y dd l
    exact ⟨u, hh y u p, rr.atomic (Plain.get hp l)⟩
  · rw [hno] at w; cases w
theorem room_gen {body : List Stmt} {env' : Env} (r : Room (n + 1) A) : Room n (A.in1.over (.func body env') []) := by
  refine ⟨?_, ?_, ?_⟩
  · exact r.handled
  · have := r.depth
    show A.depth + 0 + 1 + n < _
    omega
  · have := r.units
    show A.units + 1 + 0 + 3 + 30 * n + 500 < _
    omega
end
end Mine
end
section
open PySem PySem.W PyProof.Rows PySem.Calls
set_option maxRecDepth 100000
namespace Mine
section
variable {G : Gr} {n : Nat} {env : Env} {σ : St} {sc : Scope}
theorem load_holds {M : Model} {A : Around} {E : Value → Shared → Prop} {s : Shared} {x : Str} {v : Value} {Q : Value → Shared → Prop} (hk : env.scope.kind = .function) (q : Holds env s.heap x v) (h : Q v s) (hc : (x == ("__classdict__" : Str)) = false) : wpAny M A (loadName env x) Q E s := by
  rcases q with ⟨k, m, hn, hv⟩ | ⟨k | k, c, hl, hv⟩
  · exact wpAny_loadName_local hk k hn hv h
  · exact wpAny_loadName_cell hk k hl hv h
  · exact wpAny_loadName_free hk k hl hv h hc
/-- x += e, x -= e -/
theorem Ex1.aug {x : Str} {op : Operator} {e : Expr} {p pos : Pos} {i j k : Int} (hl : σ.lookup x = some (.val (.int i))) (h : Ev G n env σ e (.int j)) (hx : Storable env x) (ho : (op = .Add ∧ k = i + j) ∨ (op = .Sub ∧ k = i - j)) (hc : (x == ("__classdict__" : Str)) = false := by decide) :
    Ex1 G n env σ (.AugAssign (.Name x p) op e pos) fun fl σ' => fl = .next ∧ σ' = setS x (.val (.int k)) σ := fun ok A s E r kb iv => by
  obtain ⟨v, hv, rv⟩ := iv.vals x _ hl
  cases rv
  refine wpAny_AugAssign_Name (load_holds iv.frame.kind hv (wpAny_mono (h ok A s E r kb iv) (fun w s₁ p₁ => ?_) fun _ _ x => x) hc)
  obtain ⟨st, rw'⟩ := p₁
  cases rw'
  have i₁ := iv.ext st.ext
  have fin : ∀ s₂, Stp G.base s₁ s₂ → ∀ t, wpAny G.M A (storeName env x (.int k t)) (fun _ => After G env σ ok s (fun fl σ' => fl = .next ∧ σ' = setS x (.val (.int k)) σ) .next) E s₂ := fun s₂ st₂ t => by
    have st' := st.trans st₂
    have i₂ := iv.ext st'.ext
    refine wpAny_store (base := G.base) i₂.frame hx fun s₃ hv ho F m => ?_
    have m' : Mv G.base (Wr env σ) s s₃ := (st'.mv (W := Wr env σ)).trans (m.weak fun _ w => Or.inl w) fun _ w => .inl w
    exact ⟨.next, _, ⟨rfl, rfl⟩, trivial, i₂.set_val m F hv ho (.int _ _), m', m'.base kb iv.off, fun a w => .inl (owned_setS_val w)⟩
  rcases ho with ⟨rfl, rfl⟩ | ⟨rfl, rfl⟩
  · exact AutoIntOps.iadd_0 (fin _ .tok _)
  · exact AutoIntOps.isub_0 (fin _ .tok _)
theorem CmpD.notIn_str {x y : Str} : CmpD G n .NotIn (.str y) (.str x) (!Txt.contains x y) := fun ok A s E va vb r k f ra rb => by
  cases ra; cases rb; exact SB.notContains ⟨.refl, rfl⟩
theorem CmpD.none_is : CmpD G n .Is .none .none true := fun ok A s E va vb r k f ra rb => by
  cases ra; cases rb; exact wpAny_is_self rfl ⟨.refl, rfl⟩
theorem CmpD.int_is {i : Int} : CmpD G n .Is (.int i) .none false := fun ok A s E va vb r k f ra rb => by
  cases ra; cases rb; exact is_int_none ⟨.refl, rfl⟩
theorem strs_of {ok : Addr → Prop} {h : Heap} : ∀ {vs : List Value} {ts : List Str}, RepAll ok h vs (ts.map .str) → ∃ l : List (Str × Tok), strValues l = vs ∧ l.map (·.1) = ts
  | _, [], r => by cases r; exact ⟨[], rfl, rfl⟩
  | _, t :: ts, r => by
    cases r with | cons a r =>
    cases a with | str _ u =>
    obtain ⟨l, h1, h2⟩ := strs_of r
    exact ⟨(t, u) :: l, by rw [← h1]; rfl, by rw [← h2]; rfl⟩
theorem CallD.join {x : Str} {ts : List Str} (hok : JoinOk x ts = true) : CallD G n (.builtin "str.join") [.str x, .list (ts.map .str)] (.str (Txt.join x ts)) := fun ok A s E vs r k f rs => by
  cases rs with
  | cons a rs => cases rs with
    | cons b rs =>
      cases rs; cases a
      cases b with
      | list o l ra =>
        obtain ⟨l', rfl, h2⟩ := strs_of ra
        exact SC.join l h2 hok fun t' k => ⟨.tok, .str _ _⟩
theorem MethD.join {x : Str} : MethD G n (.str x) "join" (.builtin "str.join") := fun ok A s E v pl r k f rp => by
  cases rp; exact GM.join ⟨.refl, rfl⟩
theorem Ev.methB {o : Expr} {name : Str} {apos pos : Pos} {es : List Expr} {f : Value} {dv : D} {ds : List D} {d : D} (ho : EvB G n env σ o dv) (hm : MethD G n dv name f) (c : Callee G f) (ha : EvLB G n env σ es ds) (hc : CallD G n f (dv :: ds) d) (hat : Atomic d = true)
    (hns : noStar es = true := by rfl) (hplain : (backTo pos (starEach es env)).any (·.1) = false := by rfl)
    {pl : Sem Bool} (he : eval (.Call (.Attribute o name apos) es [] pos) env = (do
      let ov ← eval o env
      standAt apos.atName
      let (f, first) ← holding [ov] (getMethod ov name pl)
      callWith pos f first (backTo pos (starEach es env)) []) := by rfl) : Ev G n env σ (.Call (.Attribute o name apos) es [] pos) d := fun ok A s E r k i =>
  MethodCall_ (pl := pl) (wpAny_mono (ho ok A s E r k i) (fun v s₁ p₁ => wpAny_mono (hm _ A s₁ E v _ r (p₁.1.ext.base k) (i.ext p₁.1.ext).fresh p₁.2) (fun fx s₂ p₂ => by
    obtain ⟨st₂, rfl⟩ := p₂
    have st := p₁.1.trans st₂
    refine callWith_callee c hplain (wpAny_mono (ha ok A s₂ E pos r (st.ext.base k) (i.ext st.ext)) (fun vs s₃ p₃ => ⟨p₃.1.ext.base (st.ext.base k), ?_⟩) fun _ _ x => x) hns
    have st' := st.trans p₃.1
    exact wpAny_mono (hc _ A s₃ E (v :: vs) r (st'.ext.base k) (i.ext st'.ext).fresh (.cons ((p₁.2.stp st₂).stp p₃.1) p₃.2)) (fun _ _ p₄ => ⟨st'.trans p₄.1, p₄.2.atomic hat⟩) fun _ _ x => x) fun _ _ x => x) fun _ _ x => x) he
end
end Mine
end
section
open PySem PySem.W PyProof.Rows PySem.Calls
set_option maxRecDepth 100000
namespace Mine
/-- signs with their places, a backslash and the sign behind it as one -/
def toks : Nat → Bool → List Nat → List (Nat × List Nat)
  | i, false, [] => []
  | i, true, [] => [(i - 1, [92])]
  | i, true, c :: r => (i, [92, c]) :: toks (i + 1) false r
  | i, false, c :: r => if c = 92 then toks (i + 1) true r else (i, [c]) :: toks (i + 1) false r
abbrev SS := Nat × Option Nat × List (List Nat)
def stripStep (l : List Nat) (st : SS) (t : Nat × List Nat) : SS :=
  if t.2 = [34] then match st.2.1 with
    | none => (st.1, some t.1, st.2.2)
    | some o => (t.1 + 1, none, if st.1 ≠ o then st.2.2 ++ [(l.drop st.1).take (o - st.1)] else st.2.2)
  else st
def stripAt (l : List Nat) (ts : List (Nat × List Nat)) : SS := ts.foldl (stripStep l) (0, none, [])
def stripEnd (l : List Nat) (st : SS) : List (List Nat) := if st.1 < l.length then st.2.2 ++ [l.drop st.1] else st.2.2
def strip (l : List Nat) : List Nat := if 34 ∈ l then (stripEnd l (stripAt l (toks 0 false l))).flatten else l
/-- the count of open brackets, none once it fell below -/
def openStep (st : Option Int) (t : Nat × List Nat) : Option Int := match st with
  | none => none
  | some k => if t.2 = [40] then some (k + 1) else if t.2 = [41] then (if k - 1 < 0 then none else some (k - 1)) else some k
def openAt (ts : List (Nat × List Nat)) : Option Int := ts.foldl openStep (some 0)
def sound (l : List Nat) : Bool := openAt (toks 0 false l) == some 0
def check (l : List Nat) : Bool := sound (strip l)
/-- two names take a pair -/
def pairS (x y : Str) : D → St → St
  | .tuple [a, b], σ => setS y (.val b) (setS x (.val a) σ)
  | _, σ => σ
theorem sz {k : Nat} (h : k ≤ 16000000) : k ≤ sizeLine := Nat.le_trans h (by decide)
section
variable {G : Gr} {n : Nat} {env : Env} {σ : St} {A : Around} {okc : Addr → Prop} {g : Nat} {c : Code} {fs : List PySem.Frame} {FR : Addr → Prop} {Res : Heap → Prop} {ds : List D}
theorem AssD.pair {x y : Str} {p q tp : Pos} {k : Nat} {a b : D} (hx : Storable env x) (hy : Storable env y) : AssD G n env (.Tuple [.Name x p, .Name y q] k tp) (.tuple [a, b]) (pairS x y (.tuple [a, b])) :=
  AssD.tuple (f := pairS x y (.tuple [a, b])) (AssL.cons (f := setS x (.val a)) (g := fun σ => setS y (.val b) σ) (.name hx) (AssL.cons (f := setS y (.val b)) (g := id) (.name hy) .nil)) rfl
end
end Mine
end
section
open PySem PySem.W PyProof.Rows PySem.Calls
set_option maxRecDepth 100000
namespace Mine
section
variable {G : Gr} {n : Nat} {env : Env} {σ : St} {sc : Scope}
theorem CallD.divmod {x y : Int} (h : y ≠ 0) (hs : y.natAbs < 1073741824) : CallD G n (.builtin "divmod") [.int x, .int y] (.tuple [.int (x.fdiv y), .int (x.fmod y)]) := fun ok A s E vs r k f rs => by
  cases rs with
  | cons a rs => cases rs with
    | cons b rs =>
      cases rs; cases a; cases b
      exact divmod_int h ⟨.push, .tuple (f _ fresh_get) ⟨_, Heap.get?_push_size _ rfl, rfl, _, rfl⟩ (.cons (.int _ _) (.cons (.int _ _) .nil))⟩ (.inl (PyProof.noPylong_small hs))
theorem IdxD.str {l : List Nat} {i : Int} {c : Nat} (h0 : 0 ≤ i) (h1 : i < 2 ^ 62) (h : l[i.toNat]? = some c) : IdxD G n (.str (S l)) (.int i) (.str (S [c])) := fun ok A s E vo vi r k f ro ri => by
  cases ro; cases ri
  have hc : Txt.charAt (S l) i = some c := by
    unfold Txt.charAt
    have hlt := (List.getElem?_eq_some_iff.mp h).1
    have : seqIndex? i (S l).length = some i.toNat := by
      rw [S_length]
      unfold seqIndex?
      simp only [show ¬ i < 0 by omega, if_false]
      rw [if_pos (by simp only [Bool.and_eq_true, decide_eq_true_eq]; omega)]
    rw [this]
    simpa using h
  refine SB.getItem (by simp [fitsSsize]; omega) (by rw [hc]; rfl) ⟨.tok, ?_⟩
  have : Txt.item (S l) i = S [c] := by unfold Txt.item; rw [hc]; rfl
  rw [this]; exact .str _ _
theorem BinD.add_list {ds es : List D} (hz : ds.length + es.length ≤ sizeLine) : BinD G n .Add (.list ds) (.list es) (.list (ds ++ es)) := fun ok A s E va vb r k f ra rb => by
  cases ra with
  | @list a vs _ o l rs =>
    cases rb with
    | @list b ws _ o2 l2 rs2 =>
      obtain ⟨⟨cls, dd, data, sl⟩, ho, hc, m, hd⟩ := id l
      obtain ⟨⟨cls2, dd2, data2, sl2⟩, ho2, hc2, m2, hd2⟩ := id l2
      simp only at hc hd hc2 hd2
      subst hc hd hc2 hd2
      have e : vs.toArray ++ ws.toArray = (vs ++ ws).toArray := by simp
      refine concat_meets ⟨_, ho, rfl⟩ ⟨_, ho2, rfl⟩ noFill_list_add seq_list_add PySem.F.slot_list_add PySem.F.entry_list_add (PySem.F.args_list_add_2 _ _) (list_addW a b vs.toArray ws.toArray m m2 dd dd2 sl sl2 (by simpa [rs.length, rs2.length] using hz)) ⟨ho, ho2, ?_⟩
      rw [e]
      have st : Stp G.base s { s with heap := s.heap.push { cls := .type "list", data := .seq (vs ++ ws).toArray }, toks := s.toks } := .push
      exact ⟨st, .list (f _ fresh_get) ⟨_, Heap.get?_push_size _ rfl, rfl, _, rfl⟩ ((rs.stp st).append (rs2.stp st))⟩
end
end Mine
end
section
open PySem PySem.W PyProof.Rows PySem.Calls
set_option maxRecDepth 100000
namespace Mine
section
variable {G : Gr} {n : Nat} {env : Env} {σ : St} {sc : Scope}
theorem pys_any (ds : List D) (d : D) : ((D.pys ds).any fun y => PyData.eqv y d.py) = ds.any fun y => y.eqb d := by
  induction ds with
  | nil => rfl
  | cons a r ih => rw [D.pys, List.any_cons, List.any_cons, ih]; rfl
theorem CmpD.in_list {ds : List D} {d : D} {k : Nat} (hl : (D.list ds).data k = true) (hd : d.data k = true) (hk : k ≤ 400) : CmpD G n .In d (.list ds) (ds.any fun y => y.eqb d) := fun ok A s E va vb r kb f ra rb => by
  obtain ⟨as, qa⟩ := rep_reads k ra hd
  obtain ⟨bs, qb⟩ := rep_reads k rb hl
  have la := data_lay k d hd
  cases k with
  | zero => cases hl
  | succ k =>
    have lb := datas_lay k ds (by simpa [D.data] using hl)
    have hm : min (PyData.depthAll (D.pys ds)) d.py.depth ≤ k := Nat.le_trans (Nat.min_le_left _ _) lb.2
    exact SeqAt.in_list_reads qb qa lb.1 la.1 (by have := r.units; omega) ⟨.refl, by rw [pys_any]⟩
theorem CmpD.notIn_list {ds : List D} {d : D} {k : Nat} (hl : (D.list ds).data k = true) (hd : d.data k = true) (hk : k ≤ 400) : CmpD G n .NotIn d (.list ds) (!ds.any fun y => y.eqb d) := fun ok A s E va vb r kb f ra rb => by
  obtain ⟨as, qa⟩ := rep_reads k ra hd
  obtain ⟨bs, qb⟩ := rep_reads k rb hl
  have la := data_lay k d hd
  cases k with
  | zero => cases hl
  | succ k =>
    have lb := datas_lay k ds (by simpa [D.data] using hl)
    have hm : min (PyData.depthAll (D.pys ds)) d.py.depth ≤ k := Nat.le_trans (Nat.min_le_left _ _) lb.2
    exact SeqAt.notIn_list_reads qb qa lb.1 la.1 (by have := r.units; omega) ⟨.refl, by rw [pys_any]⟩
theorem CmpD.notIn_tuple {ds : List D} {d : D} {k : Nat} (hl : (D.tuple ds).data k = true) (hd : d.data k = true) (hk : k ≤ 400) : CmpD G n .NotIn d (.tuple ds) (!ds.any fun y => y.eqb d) := fun ok A s E va vb r kb f ra rb => by
  obtain ⟨as, qa⟩ := rep_reads k ra hd
  obtain ⟨bs, qb⟩ := rep_reads k rb hl
  have la := data_lay k d hd
  cases k with
  | zero => cases hl
  | succ k =>
    have lb := datas_lay k ds (by simpa [D.data] using hl)
    have hm : min (PyData.depthAll (D.pys ds)) d.py.depth ≤ k := Nat.le_trans (Nat.min_le_left _ _) lb.2
    exact SeqAt.notIn_tuple_reads qb qa lb.1 la.1 (by have := r.units; omega) ⟨.refl, by rw [pys_any]⟩
theorem CallD.isi_str_int {x : Str} : CallD G n (.builtin "isinstance") [.str x, .raw (.type "int")] (.bool false) := fun ok A s E vs r k f rs => by
  cases rs with
  | cons a rs => cases rs with
    | cons b rs => cases rs; cases b; cases a; exact IsiPair.str_int ⟨.tok, .bool _⟩
theorem CallD.isi_int_int {x : Int} : CallD G n (.builtin "isinstance") [.int x, .raw (.type "int")] (.bool true) := fun ok A s E vs r k f rs => by
  cases rs with
  | cons a rs => cases rs with
    | cons b rs => cases rs; cases b; cases a; exact IsiPair.int_int ⟨.refl, .bool _⟩
theorem RepAll.atomics {ok ok' : Addr → Prop} {h h' : Heap} : ∀ {vs : List Value} {ds : List D}, RepAll ok h vs ds → (∀ d ∈ ds, Atomic d = true) → RepAll ok' h' vs ds
  | _, _, .nil, _ => .nil
  | _, _, .cons a r, k => .cons (a.atomic (k _ (.head _))) (RepAll.atomics r fun d m => k d (.tail _ m))
theorem pickD_map {α β : Type} (f : α → β) (ds : List α) (lo hi st : Option Int) : pickD (ds.map f) lo hi st = (pickD ds lo hi st).map f := by
  unfold pickD
  rw [List.length_map, List.map_filterMap]
  congr 1
  funext i
  rw [List.getElem?_map]
end
end Mine
end
section
open PySem PySem.W PyProof.Rows PySem.Calls
set_option maxRecDepth 100000
namespace Mine
section
variable {G : Gr} {n : Nat} {env : Env} {σ : St} {sc : Scope}
theorem FEnv.swaps {env : Env} {sc : Scope} {e : Expr} {t : Option Expr} {l : Nat} {b : Bool} (FE : FEnv env sc) (h : ∀ env' : Env, swapsWith e t l { env' with scope := sc } = pure b) : swapsWith e t l env = pure b := by
  have : env = { env with scope := sc } := by rw [← FE.scope]
  rw [this]; exact h env
theorem Sub.set {x : Str} {s : Slot} : ∀ {σ₀ σ₁ : St}, Sub σ₀ σ₁ → x ∉ σ₀.map (·.1) → Sub σ₀ (setS x s σ₁)
  | [], _, _, _ => trivial
  | (y, t) :: r, σ₁, h, k => by
    rw [List.map_cons, List.mem_cons, not_or] at k
    exact ⟨by rw [lookup_setS_ne (Ne.symm k.1)]; exact h.1, Sub.set h.2 k.2⟩
def nums (js : List Nat) : List D := js.map fun j => .int (j : Nat)
theorem rng_get {m i : Nat} {d : D} (h : (rngList 0 (m : Int))[i]? = some d) : i < m ∧ d = .int (i : Nat) := by
  unfold rngList at h
  rw [Int.sub_zero, Int.toNat_natCast, List.getElem?_map] at h
  obtain ⟨j, hj, rfl⟩ := Option.map_eq_some_iff.mp h
  have hi : i < m := by have := (List.getElem?_eq_some_iff.mp hj).1; simpa using this
  rw [List.getElem?_range hi] at hj
  cases hj
  exact ⟨hi, by rw [Int.zero_add]⟩
theorem rng_length (m : Nat) : (rngList 0 (m : Int)).length = m := by simp [rngList]
end
end Mine
end
section
open PySem PySem.W PyProof.Rows PySem.Calls
set_option maxRecDepth 100000
namespace Mine
/-- does a text end behind a backslash -/
def ends : Bool → List Nat → Bool
  | b, [] => b
  | true, _ :: r => ends false r
  | false, c :: r => if c = 92 then ends true r else ends false r
/-- a stretch of a text: in quotation marks, or not -/
structure Un where
  q : Bool
  t : List Nat
def txt (us : List Un) : List Nat := (us.map (·.t)).flatten
end Mine
end
section
open PySem PySem.W PyProof.Rows PySem.Calls
set_option maxRecDepth 100000
namespace Mine
def stepB (st : Option Int) (t : List Nat) : Option Int := openStep st (0, t)
/-- what is seen of the brackets: a flag hides -/
def stepV (st : Option Int) (p : List Nat) (h : Bool) : Option Int := if h then st else stepB st p
def seen (P : List (List Nat)) (fl : List Bool) (i : Nat) : Option Int := (List.range i).foldl (fun st j => stepV st (P.getD j []) (fl.getD j false)) (some 0)
def marks (l : List Bool) (js : List Nat) : List Bool := js.foldl (fun l j => l.set j true) l
/-- the sum of what is seen -/
def val (p : List Nat) (h : Bool) : Int := if h then 0 else if p = [40] then 1 else if p = [41] then -1 else 0
end Mine
end
section
open PySem PySem.W PyProof.Rows PySem.Calls
set_option maxRecDepth 100000
namespace Mine
/-- what stands to the sign whatever flies: all but the namespaces above the base -/
def core (base h : Heap) : Heap := hideAll h ((List.range h.objs.size).filter fun b => (base.get? b).isNone && (match h.get? b with | some o => isDict o.data | none => false))
theorem core_get {base h : Heap} {b : Addr} {o : Obj} (e : h.get? b = some o) (k : (base.get? b).isSome = true ∨ isDict o.data = false) : (core base h).get? b = some o := by
  refine hideAll_get _ e fun m => ?_
  have := (List.mem_filter.mp m).2
  rw [e] at this
  simp only [Bool.and_eq_true] at this
  rcases k with k | k
  · rw [Option.isNone_iff_eq_none.mp this.1] at k; cases k
  · rw [k] at this; exact Bool.false_ne_true this.2
theorem of_core {base h : Heap} {b : Addr} {o : Obj} (e : (core base h).get? b = some o) : h.get? b = some o ∧ ((base.get? b).isSome = true ∨ isDict o.data = false) := by
  have e' := of_hideAll _ e
  refine ⟨e', ?_⟩
  cases q : base.get? b with
  | some _ => exact .inl rfl
  | none =>
    cases z : isDict o.data with
    | false => exact .inr rfl
    | true =>
      have hm : b ∈ (List.range h.objs.size).filter fun b => (base.get? b).isNone && (match h.get? b with | some o => isDict o.data | none => false) :=
        List.mem_filter.mpr ⟨List.mem_range.mpr (Heap.lt_size e'), by rw [q, e']; simpa using z⟩
      have := hideAll_none (h := h) _ hm
      unfold core at e
      rw [this] at e; cases e
theorem core_none {base h : Heap} {b : Addr} (e : h.get? b = none) : (core base h).get? b = none := by
  cases q : (core base h).get? b with
  | none => rfl
  | some o => rw [(of_core q).1] at e; cases e
theorem core_stays {base : Heap} {s s' : Shared} (st : Stp base s s') : (core base s.heap).StaysIn s'.heap := fun b o e => by
  obtain ⟨e1, e2⟩ := of_core e
  obtain ⟨o', e', _, _, k⟩ := st.ext b o e1
  rw [e', k e2]
theorem Stp.fly {base h' : Heap} {s s' : Shared} (st : Stp base s s') (k : (core base s.heap).StaysIn h') (u : s'.heap.UpToSlots h') : Stp base s { s' with heap := h' } := by
  refine ⟨fun b o e => ?_, st.os, st.gens⟩
  obtain ⟨o', e', c', d', k'⟩ := st.ext b o e
  by_cases q : (base.get? b).isSome = true ∨ isDict o.data = false
  · exact ⟨o, k b o (core_get e q), rfl, rfl, fun _ => rfl⟩
  · have hd : isDict o.data = true := by
      cases z : isDict o.data with
      | true => rfl
      | false => exact absurd (.inr z) q
    have hnf : ∀ vs, o'.data ≠ .fields vs := fun vs z => by rw [d'] at z; rw [z] at hd; cases hd
    obtain ⟨sl, e''⟩ := u b o' e' hnf
    exact ⟨_, e'', c', d', fun z => absurd z q⟩
/-- the frames of the stack -/
structure Stk (base h : Heap) (A : Around) (l : List Env) : Prop where
  frames : A.frames = some l
  funs : ∀ env ∈ l, env.scope.kind = .function ∧ ∃ L m, env.frame = some L ∧ base.get? L = none ∧ h.Ns L m
theorem Stk.fun {base : Heap} {s s' : Shared} {A : Around} {l : List Env} (K : Stk base s.heap A l) (st : Stp base s s') : s'.heap.FunFrames (core base s.heap) l := by
  have funs := K.funs
  have go : ∀ l : List Env, (∀ env ∈ l, env.scope.kind = .function ∧ ∃ L m, env.frame = some L ∧ base.get? L = none ∧ s.heap.Ns L m) → s'.heap.FunFrames (core base s.heap) l := by
    intro l
    induction l with
    | nil => intro _; trivial
    | cons env r ih =>
      intro h
      obtain ⟨a, L, m, b, c, d⟩ := h env (.head _)
      refine ⟨by rw [a]; decide, ?_, ih fun e he => h e (.tail _ he)⟩
      obtain ⟨o, es, ep, e, hd, _⟩ := d
      obtain ⟨o', e', _, d', _⟩ := st.ext L o e
      refine ⟨L, o', b, ?_, e', fun vs q => by rw [d', hd] at q; cases q⟩
      cases q : (core base s.heap).get? L with
      | none => rfl
      | some o2 =>
        obtain ⟨q1, q2⟩ := of_core q
        rw [e] at q1; cases q1
        rcases q2 with q2 | q2
        · rw [c] at q2; cases q2
        · rw [hd] at q2; cases q2
  exact go l funs
/-- how far an exception has come -/
inductive Way where
  | new | fly
  | at (L : Addr)
/-- noted: the exception's object, its place in the trace, what flies -/
def Noted (B h : Heap) (X : String) (t e : Addr) (fl : Value) : Prop :=
  ∃ oe vs T oT ts, h.get? e = some oe ∧ oe.cls = .type X ∧ oe.data = .fields vs ∧ vs[0]? = some (.ref t) ∧ vs[1]? = some (.ref T) ∧ vs[2]? = some .none ∧ B.get? T = none ∧ T ≠ e ∧ h.get? T = some oT ∧ oT.data = .fields ts ∧ ts[3]? = some fl
def ExcAt (B h : Heap) (X : String) (t e : Addr) : Way → Prop
  | .new => ∃ oe vs, h.get? e = some oe ∧ oe.cls = .type X ∧ oe.data = .fields vs ∧ vs[0]? = some (.ref t) ∧ vs[1]? = some .none ∧ vs[2]? = some .none
  | .fly => Noted B h X t e .none
  | .at L => Noted B h X t e (rawInt L)
structure Exc (base : Heap) (X : String) (msg : Str) (way : Way) (s s' : Shared) (e : Addr) : Prop where
  stp : Stp base s s'
  new : s.heap.get? e = none
  it : ∃ t tk, ExcAt (core base s.heap) s'.heap X t e way ∧ s'.heap.TupAt t [.str msg tk]
section
variable {M : Model} {A : Around} {E : Value → Shared → Prop} {base : Heap} {X : String} {msg : Str} {s s' : Shared} {e : Addr} {env : Env} {l : List Env} {Q : Unit → Shared → Prop}
/-- a new row of the trace -/
theorem entry_step {B : Heap} {L : Addr} {oe : Obj} {vs : Array Value} {head : Value} {had : Bool} (hfr : A.frames = some (env :: l)) (ff : s.heap.FunFrames B (env :: l)) (hf : env.frame = some L) (kb : B.StaysIn s.heap)
    (he : s.heap.get? e = some oe) (hd : oe.data = .fields vs) (hsz : 1 < vs.size) (hen : B.get? e = none)
    (h : ∀ h' T oT ts, B.StaysIn h' → s.heap.UpToSlots h' → h'.get? e = some (Obj.mapFields (·.setIfInBounds 1 (.ref T)) oe) → B.get? T = none → T ≠ e → h'.get? T = some oT → oT.data = .fields ts → ts[3]? = some (rawInt L) → Q () { s with heap := h' }) :
    wpAny M A (do let a ← frameOf env; let pl ← entryPlaceOf L had; let b ← EntryCells.newEntry head a .none (rawInt L) .none pl; setField (.ref e) 1 b) Q E s := by
  have hne : e ∉ (env :: l).filterMap (·.frame) := fun hm => by
    obtain ⟨_, o, ho, hnf⟩ := ff.mem hm
    rw [he] at ho; cases ho; exact hnf vs hd
  refine wpAny_bind (wpAny_frameOf_fun hfr ff hf fun h₁ hs₁ => ?_)
  refine wpAny_bind (wpAny_entryPlaceOf fun pl hpl => ?_)
  unfold EntryCells.newEntry newFields
  refine wpAny_bind (wpAny_newObj_type ?_ (hpl.sizeOk5 _ _ _ _ _))
  have he₁ : h₁.get? e = some oe := (hs₁.2.1 e hne).trans he
  have kb₁ : B.StaysIn h₁ := fun b o hb => (hs₁.2.1 b fun hm => by rw [(ff.mem hm).1] at hb; cases hb).trans (kb b o hb)
  generalize hT : ({ cls := .type "traceback", dict := none, data := .fields ([head, .ref L, .none, rawInt L, .none] ++ (if pl.isEmpty then List.replicate 6 Value.none else pl)).toArray } : Obj) = oT
  have hTd : oT.data = .fields ([head, .ref L, .none, rawInt L, .none] ++ (if pl.isEmpty then List.replicate 6 Value.none else pl)).toArray := by rw [← hT]
  have hTn : oT.isFreed = false := by rw [← hT]; rfl
  have he₂ := Heap.get?_push_of_some (h := h₁) oT he₁
  refine wpAny_setField he₂ hd hsz ?_
  have hTe : h₁.objs.size ≠ e := Nat.ne_of_gt (Heap.lt_size he₁)
  have other : ∀ b o, b ≠ e → h₁.get? b = some o → ((h₁.push oT).update e (Obj.mapFields (·.setIfInBounds 1 (Value.ref h₁.objs.size)))).get? b = some o := fun b o hb q =>
    (Heap.get?_update_other _ _ (Ne.symm hb)).trans (Heap.get?_push_of_some _ q)
  refine h _ h₁.objs.size oT _ (fun b o q => other b o (fun z => by rw [z, hen] at q; cases q) (kb₁ b o q)) (fun b o q hnf => ?_)
    (Heap.get?_update_self _ he₂ (Obj.isFreed_of_fields (Obj.data_mapFields hd _))) kb₁.fresh hTe ((Heap.get?_update_other _ _ (Ne.symm hTe)).trans (Heap.get?_push_size h₁ hTn)) hTd (by simp)
  obtain ⟨sl, q'⟩ := hs₁.2.2 b o q
  exact ⟨sl, other b _ (fun z => by rw [z, he] at q; cases q; exact hnf vs hd) q'⟩
theorem noted_entry {B h' : Heap} {X : String} {t T : Addr} {oe oT : Obj} {vs ts : Array Value} {fl : Value} (hc : oe.cls = .type X) (hd : oe.data = .fields vs) (h0 : vs[0]? = some (.ref t)) (h2 : vs[2]? = some .none) (hsz : 1 < vs.size)
    (x1 : h'.get? e = some (Obj.mapFields (·.setIfInBounds 1 (.ref T)) oe)) (x2 : B.get? T = none) (x3 : T ≠ e) (x4 : h'.get? T = some oT) (x5 : oT.data = .fields ts) (x6 : ts[3]? = some fl) : Noted B h' X t e fl :=
  ⟨_, _, T, oT, ts, x1, (Obj.cls_mapFields _ _).trans hc, Obj.data_mapFields hd _, by rw [Array.getElem?_setIfInBounds_ne (by decide)]; exact h0, by simp [hsz], by rw [Array.getElem?_setIfInBounds_ne (by decide)]; exact h2, x2, x3, x4, x5, x6⟩
theorem Exc.note {way : Way} {L : Addr} (K : Stk base s.heap A (env :: l)) (x : Exc base X msg way s s' e) (hf : env.frame = some L) (hw : ∀ L', way = .at L' → L' = L) (h : ∀ s'', Exc base X msg (.at L) s s'' e → Q () s'') : wpAny M A (noteFrame (.ref e) env) Q E s' := by
  obtain ⟨st, new, t, tk, it, tup⟩ := x
  have k := core_stays st
  have ff := K.fun st
  have hen := core_none (base := base) new
  unfold noteFrame
  simp only [hf]
  cases way with
  | new =>
    obtain ⟨oe, vs, he, hc, hd, h0, h1, h2⟩ := it
    refine wpAny_bind (wpAny_field he hd h1 ?_)
    rw [if_neg (by decide)]
    have hsz := (Array.getElem?_eq_some_iff.mp h1).1
    exact entry_step K.frames ff hf k he hd hsz hen fun h' T oT ts k1 u x1 x2 x3 x4 x5 x6 => h _ ⟨st.fly k1 u, new, t, tk, noted_entry hc hd h0 h2 hsz x1 x2 x3 x4 x5 x6, tup.of_slots u⟩
  | fly =>
    obtain ⟨oe, vs, T, oT, ts, he, hc, hd, h0, h1, h2, hnT, hTe, hT, hdT, h3⟩ := it
    refine wpAny_bind (wpAny_field he hd h1 ?_)
    rw [if_pos (show (Value.ref T != Value.none) = true from by simp)]
    refine wpAny_bind (wpAny_field hT hdT h3 ?_)
    rw [if_neg (show ¬ ((Value.none == rawInt L) = true) from by simp [rawInt])]
    refine wpAny_bind (wpAny_setField hT hdT (Array.getElem?_eq_some_iff.mp h3).1 ?_)
    have other : ∀ b, b ≠ T → (s'.heap.update T (Obj.mapFields (·.setIfInBounds 3 Value.none))).get? b = s'.heap.get? b := fun b hb => Heap.get?_update_other _ _ (Ne.symm hb)
    have norec : ∀ b o, s'.heap.get? b = some o → (∀ vs, o.data ≠ .fields vs) → b ≠ T := fun b o hb hnf q => by rw [q, hT] at hb; cases hb; exact hnf ts hdT
    have u1 : s'.heap.UpToSlots (s'.heap.update T (Obj.mapFields (·.setIfInBounds 3 Value.none))) := fun b o hb hn => ⟨o.slots, (other b (norec b o hb hn)).trans hb⟩
    have hsz := (Array.getElem?_eq_some_iff.mp h1).1
    refine entry_step (s := { s' with heap := s'.heap.update T (Obj.mapFields (·.setIfInBounds 3 Value.none)) }) K.frames (ff.of_keeps fun b o hb hn => ⟨o, (other b (norec b o hb hn)).trans hb, rfl⟩) hf
      (fun b o hb => (other b fun q => by rw [q, hnT] at hb; cases hb).trans (k b o hb)) ((other e (Ne.symm hTe)).trans he) hd hsz hen fun h' T' oT' ts' k1 u x1 x2 x3 x4 x5 x6 => h _ ⟨st.fly k1 (u1.trans u), new, t, tk, noted_entry hc hd h0 h2 hsz x1 x2 x3 x4 x5 x6, tup.of_slots (u1.trans u)⟩
  | «at» L' =>
    have := hw L' rfl; subst this
    obtain ⟨oe, vs, T, oT, ts, he, hc, hd, h0, h1, h2, hnT, hTe, hT, hdT, h3⟩ := it
    refine wpAny_bind (wpAny_field he hd h1 ?_)
    rw [if_pos (show (Value.ref T != Value.none) = true from by simp)]
    refine wpAny_bind (wpAny_field hT hdT h3 ?_)
    rw [if_pos (show (rawInt L' == rawInt L') = true from by simp)]
    exact wpAny_pure (h _ ⟨st, new, t, tk, ⟨oe, vs, T, oT, ts, he, hc, hd, h0, h1, h2, hnT, hTe, hT, hdT, h3⟩, tup⟩)
theorem Exc.flight {fl fl' : Value} {fr : Option Addr} {way way' : Way} (hfl : fr.elim Value.none (fun f => rawInt f) = fl') (hway : ∀ B h t, ExcAt B h X t e way → Noted B h X t e fl) (hway' : ∀ B h t, Noted B h X t e fl' → ExcAt B h X t e way') (x : Exc base X msg way s s' e) (h : ∀ s'', Exc base X msg way' s s'' e → Q () s'') : wpAny M A (setFlight (.ref e) fr) Q E s' := by
  obtain ⟨st, new, t, tk, it, tup⟩ := x
  have k := core_stays st
  obtain ⟨oe, vs, T, oT, ts, he, hc, hd, h0, h1, h2, hnT, hTe, hT, hdT, h3⟩ := hway _ _ _ it
  unfold setFlight
  refine wpAny_bind (wpAny_field he hd h1 ?_)
  rw [if_pos (show (Value.ref T != Value.none) = true from by simp)]
  have hsz3 : 3 < ts.size := (Array.getElem?_eq_some_iff.mp h3).1
  refine wpAny_setField hT hdT hsz3 ?_
  rw [hfl]
  have other : ∀ b, b ≠ T → (s'.heap.update T (Obj.mapFields (·.setIfInBounds 3 fl'))).get? b = s'.heap.get? b := fun b hb => Heap.get?_update_other _ _ (Ne.symm hb)
  have norec : ∀ b o, s'.heap.get? b = some o → (∀ vs, o.data ≠ .fields vs) → b ≠ T := fun b o hb hnf q => by rw [q, hT] at hb; cases hb; exact hnf ts hdT
  have u : s'.heap.UpToSlots (s'.heap.update T (Obj.mapFields (·.setIfInBounds 3 fl'))) := fun b o hb hn => ⟨o.slots, (other b (norec b o hb hn)).trans hb⟩
  exact h _ ⟨st.fly (fun b o hb => (other b fun q => by rw [q, hnT] at hb; cases hb).trans (k b o hb)) u, new, t, tk,
    hway' _ _ _ ⟨oe, vs, T, _, _, (other e (Ne.symm hTe)).trans he, hc, hd, h0, h1, h2, hnT, hTe, Heap.get?_update_self _ hT (Obj.isFreed_of_fields (Obj.data_mapFields hdT _)), Obj.data_mapFields hdT _, by simp [hsz3]⟩, tup.of_slots u⟩
theorem Exc.land {way : Way} (x : Exc base X msg way s s' e) (hw : way ≠ .new) (h : ∀ s'', Exc base X msg .fly s s'' e → Q () s'') : wpAny M A (setFlight (.ref e) none) Q E s' := by
  cases way with
  | new => exact absurd rfl hw
  | fly => exact Exc.flight (way := .fly) (way' := .fly) (fl := .none) (fl' := .none) rfl (fun _ _ _ z => z) (fun _ _ _ z => z) x h
  | «at» L => exact Exc.flight (way := .at L) (way' := .fly) (fl := rawInt L) (fl' := .none) rfl (fun _ _ _ z => z) (fun _ _ _ z => z) x h
theorem Exc.leave {way : Way} (K : Stk base s.heap A (env :: l)) (x : Exc base X msg way s s' e) (hw : ∀ L, way = .at L → env.frame = some L) (h : ∀ s'', Exc base X msg .fly s s'' e → Q () s'') : wpAny M A (leaving env (.ref e)) Q E s' := by
  obtain ⟨_, L, m, hf, _⟩ := K.funs env (.head _)
  unfold leaving
  exact wpAny_bind (x.note K hf (fun L' z => by have := hw L' z; rw [hf] at this; cases this; rfl) fun s₁ x₁ => x₁.land (by simp) h)
theorem Exc.back {L L' : Addr} (x : Exc base X msg (.at L') s s' e) (hf : env.frame = some L) (h : ∀ s'', Exc base X msg (.at L) s s'' e → E (.ref e) s'') : cameBackBy M A env E (.ref e) s' := by
  obtain ⟨oe, vs, T, oT, ts, he, hc, hd, h0, h1, _⟩ : ∃ oe vs T oT ts, s'.heap.get? e = some oe ∧ oe.cls = .type X ∧ oe.data = .fields vs ∧ (∃ t, vs[0]? = some (.ref t)) ∧ vs[1]? = some (.ref T) ∧ s'.heap.get? T = some oT ∧ oT.data = .fields ts := by
    obtain ⟨st, new, t, tk, ⟨oe, vs, T, oT, ts, he, hc, hd, h0, h1, h2, hnT, hTe, hT, hdT, h3⟩, tup⟩ := x
    exact ⟨oe, vs, T, oT, ts, he, hc, hd, ⟨t, h0⟩, h1, hT, hdT⟩
  unfold cameBackBy
  refine wpAny_bind (wpAny_field he hd h1 ?_)
  rw [if_neg (show ¬ ((Value.ref T == Value.none) = true) from by simp)]
  rw [hf]
  exact Exc.flight (fr := some L) (way := .at L') (way' := .at L) (fl := rawInt L') (fl' := rawInt L) rfl (fun _ _ _ z => z) (fun _ _ _ z => z) x h
/-- seen from farther back -/
theorem Exc.of_mv {way : Way} {W : Addr → Prop} {s₀ : Shared} (x : Exc base X msg way s s' e) (m : Mv base W s₀ s) (hW : ∀ b, W b → s₀.heap.get? b = none) : Exc base X msg way s₀ s' e := by
  obtain ⟨st, new, t, tk, it, tup⟩ := x
  have st0 := m.stp hW
  have hc : ∀ b, (core base s.heap).get? b = none → (core base s₀.heap).get? b = none := fun b hb => by
    cases q : (core base s₀.heap).get? b with
    | none => rfl
    | some o =>
      obtain ⟨q1, q2⟩ := of_core q
      obtain ⟨o', e', _, _, k'⟩ := st0.ext b o q1
      have := k' q2; subst this
      rw [core_get e' q2] at hb; cases hb
  refine ⟨st0.trans st, m.dom e new, t, tk, ?_, tup⟩
  have go : ∀ fl, Noted (core base s.heap) s'.heap X t e fl → Noted (core base s₀.heap) s'.heap X t e fl := fun fl ⟨oe, vs, T, oT, ts, he, hc', hd, h0, h1, h2, hnT, r⟩ => ⟨oe, vs, T, oT, ts, he, hc', hd, h0, h1, h2, hc T hnT, r⟩
  cases way with
  | new => exact it
  | fly => exact go _ it
  | «at» L => exact go _ it
theorem Exc.of_stp {way : Way} {s₀ : Shared} (x : Exc base X msg way s s' e) (m : Stp base s₀ s) : Exc base X msg way s₀ s' e := x.of_mv (W := fun _ => False) m.mv fun _ h => h.elim
end
end Mine
end
section
open PySem PySem.W PyProof.Rows PySem.Calls
set_option maxRecDepth 100000
namespace Mine
section
variable {G : Gr} {n : Nat} {env : Env} {σ : St} {fp : Addr → Prop} {H : Around → Heap → Prop}
def EvP (G : Gr) (n : Nat) (env : Env) (H : Around → Heap → Prop) (σ : St) (e : Expr) (d : D) : Prop := ∀ ok A s E, H A s.heap → Room n A → G.base.StaysIn s.heap → Inv G.base ok env σ s.heap →
  wpAny G.M A (eval e env) (fun v s' => Stp G.base s s' ∧ Rep (okO ok σ) s'.heap v d) E s
def EvLP (G : Gr) (n : Nat) (env : Env) (H : Around → Heap → Prop) (σ : St) (es : List Expr) (ds : List D) : Prop := ∀ ok A s E p, H A s.heap → Room n A → G.base.StaysIn s.heap → Inv G.base ok env σ s.heap →
  wpAny G.M A (spliced (backTo p (starEach es env))) (fun vs s' => Stp G.base s s' ∧ RepAll (okO ok σ) s'.heap vs ds) E s
def TrP (G : Gr) (n : Nat) (env : Env) (H : Around → Heap → Prop) (σ : St) (e : Expr) (b : Bool) : Prop := ∀ ok A s E, H A s.heap → Room n A → G.base.StaysIn s.heap → Inv G.base ok env σ s.heap →
  wpAny G.M A (isTrue e env (eval e env)) (fun r s' => Stp G.base s s' ∧ r = b) E s
theorem EvP.of {e : Expr} {d : D} (h : Ev G n env σ e d) : EvP G n env H σ e d := fun ok A s E _ r k i => h ok A s E r k i
theorem TrP.of {e : Expr} {b : Bool} (h : Tr G n env σ e b) : TrP G n env H σ e b := fun ok A s E _ r k i => h ok A s E r k i
theorem ExP1.of {st : Stmt} {Q : Fl → St → Prop} (h : Ex1 G n env σ st Q) : ExP1 G n env H σ st Q := fun ok A s E _ r k i => h ok A s E r k i
theorem ExP.mono {body : List Stmt} {Q Q' : Fl → St → Prop} (a : ExP G n env H σ body Q) (h : ∀ fl σ', Q fl σ' → Q' fl σ') : ExP G n env H σ body Q' := fun ok A s E q r k i => wpAny_mono (a ok A s E q r k i) (fun _ _ p => p.mono h) fun _ _ x => x
theorem ExP1.mono {st : Stmt} {Q Q' : Fl → St → Prop} (a : ExP1 G n env H σ st Q) (h : ∀ fl σ', Q fl σ' → Q' fl σ') : ExP1 G n env H σ st Q' := fun ok A s E q r k i => wpAny_mono (a ok A s E q r k i) (fun _ _ p => p.mono h) fun _ _ x => x
theorem TrP.cmp {a b : Expr} {op : CmpOp} {p : Pos} {da db : D} {c : Bool} (R : Rd G.base env fp H) (ha : EvP G n env H σ a da) (hb : EvP G n env H σ b db) (ho : CmpD G n op da db c) (hm : behindInMarks op b = false := by with_unfolding_all rfl) :
    TrP G n env H σ (.Compare a [op] [b] p) c := fun ok A s E q r k i =>
  wpAny_isTrue_Compare1 (wpAny_mono (ha ok A s E q r k i) (fun va s₁ p₁ => wpAny_mono (hb ok A s₁ E (R.ext p₁.1.ext q) r (p₁.1.ext.base k) (i.ext p₁.1.ext)) (fun vb s₂ p₂ =>
    have st := p₁.1.trans p₂.1
    wpAny_mono (ho _ A s₂ E va vb r (st.ext.base k) (i.ext st.ext).freshO (p₁.2.stp p₂.1) p₂.2) (fun _ _ p₃ => by rw [p₃.2]; exact wpAny_truthy_bool ⟨st.trans p₃.1, rfl⟩) fun _ _ x => x) fun _ _ x => x) fun _ _ x => x) hm
theorem ExP.nil {Q : Fl → St → Prop} (h : Q .next σ) : ExP G n env H σ [] Q := .of (.nil h)
theorem ExP.cons {st : Stmt} {rest : List Stmt} {Q : Fl → St → Prop} (R : Rd G.base env fp H) (h : ExP1 G n env H σ st fun fl σ' => match fl with | .next => ExP G n env H σ' rest Q | fl => Q fl σ') : ExP G n env H σ (st :: rest) Q := fun ok A s E q r k i =>
  wpAny_execs_cons (wpAny_mono (h ok A s E q r k i) (fun f s' a => by
    obtain ⟨fl, σ', qq, fi, i', m, k', o⟩ := a
    cases f <;> cases fl <;> first | exact fi.elim | skip
    · exact wpAny_mono (qq ok A s' E (R.mv i m q) r k' i') (fun _ _ a => a.trans m o m.dom) fun _ _ x => x
    · exact ⟨.brk, σ', qq, trivial, i', m, k', o⟩
    · exact ⟨.cont, σ', qq, trivial, i', m, k', o⟩
    · exact ⟨.ret _, σ', qq, fi, i', m, k', o⟩) fun _ _ x => x)
theorem ExP.step {st : Stmt} {rest : List Stmt} {Q : Fl → St → Prop} {P : St → Prop} (R : Rd G.base env fp H) (h : ExP1 G n env H σ st fun fl σ' => fl = .next ∧ P σ') (hr : ∀ σ', P σ' → ExP G n env H σ' rest Q) : ExP G n env H σ (st :: rest) Q :=
  .cons R (h.mono fun fl σ' p => by obtain ⟨rfl, p⟩ := p; exact hr σ' p)
theorem ExP.one {st : Stmt} {rest : List Stmt} {Q : Fl → St → Prop} {σ' : St} (R : Rd G.base env fp H) (h : ExP1 G n env H σ st fun fl σ'' => fl = .next ∧ σ'' = σ') (hr : ExP G n env H σ' rest Q) : ExP G n env H σ (st :: rest) Q :=
  .step R h fun _ e => e ▸ hr
theorem ExP1.ite {t : Expr} {a b : List Stmt} {pos : Pos} {c : Bool} {Q : Fl → St → Prop} (R : Rd G.base env fp H) (h : TrP G n env H σ t c) (ha : c = true → ExP G n env H σ a Q) (hb : c = false → ExP G n env H σ b Q) : ExP1 G n env H σ (.If t a b pos) Q := fun ok A s E q r k i =>
  wpAny_If (wpAny_mono (h ok A s E q r k i) (fun c' s₁ p₁ => by
    obtain ⟨st, rfl⟩ := p₁
    have go : ∀ body, ExP G n env H σ body Q → wpAny G.M A (execs body env) (After G env σ ok s Q) E s₁ := fun body hq =>
      wpAny_mono (hq ok A s₁ E (R.ext st.ext q) r (st.ext.base k) (i.ext st.ext)) (fun _ _ a => a.trans st.mv (fun _ w => .inl w) fun b e => st.ext.none e) fun _ _ x => x
    cases c' with
    | true => exact go _ (ha rfl)
    | false => exact go _ (hb rfl)) fun _ _ x => x)
theorem ExP.only {σ₀ : St} {body : List Stmt} {Q : Fl → St → Prop} (hs : Sub σ₀ σ) (h : ExP G n env H σ₀ body Q) (hn : (σ₀.map (·.1)).Nodup := by simp; try decide) : ExP G n env H σ body Q := fun ok A s E q r k i =>
  wpAny_mono (h ok A s E q r k (i.sub hs (Sub.nodup i.once hn hs))) (fun _ _ a => a.sub hs.owned) fun _ _ x => x
theorem ExP1.only {σ₀ : St} {st : Stmt} {Q : Fl → St → Prop} (hs : Sub σ₀ σ) (h : ExP1 G n env H σ₀ st Q) (hn : (σ₀.map (·.1)).Nodup := by simp; try decide) : ExP1 G n env H σ st Q := fun ok A s E q r k i =>
  wpAny_mono (h ok A s E q r k (i.sub hs (Sub.nodup i.once hn hs))) (fun _ _ a => a.sub hs.owned) fun _ _ x => x
theorem ExP.freeze {x : Str} {a : Addr} {ds : List D} {body : List Stmt} {Q : Fl → St → Prop} (l : σ.lookup x = some (.own a ds)) (h : ExP G n env H (setS x (.val (.list ds)) σ) body Q) : ExP G n env H σ body Q := fun ok A s E q r k i =>
  wpAny_mono (h ok A s E q r k (i.freeze l)) (fun _ _ a => a.sub fun b w => owned_setS_val w) fun _ _ x => x
theorem ExP.post {body : List Stmt} {Q Q' : Fl → St → Prop} (h : ExP G n env H σ body Q) (hq : ∀ fl σ', Q fl σ' → Q' fl σ' ∨ ∃ σ₀, Sub σ₀ σ' ∧ (σ₀.map (·.1)).Nodup ∧ Q' fl σ₀) : ExP G n env H σ body Q' := fun ok A s E q r k i =>
  wpAny_mono (h ok A s E q r k i) (fun f s' a => by
    obtain ⟨fl, σ', q, fi, i', m, k', o⟩ := a
    rcases hq fl σ' q with q' | ⟨σ₀, hs, hn, q'⟩
    · exact ⟨fl, σ', q', fi, i', m, k', o⟩
    exact ⟨fl, σ₀, q', fi, i'.sub hs (Sub.nodup i'.once hn hs), m, k', fun b w => o b (hs.owned b w)⟩) fun _ _ x => x
theorem EvLP.nil : EvLP G n env H σ [] [] := fun _ _ _ _ _ _ _ _ _ => args_nil ⟨.refl, .nil⟩
theorem EvLP.cons {e : Expr} {es : List Expr} {d : D} {ds : List D} (R : Rd G.base env fp H) (h : EvP G n env H σ e d) (hs : EvLP G n env H σ es ds) (he : starEach (e :: es) env = (false, eval e env) :: starEach es env := by rfl) : EvLP G n env H σ (e :: es) (d :: ds) := fun ok A s E p q r k i =>
  args_cons (wpAny_mono (h ok A s E q r k i) (fun v s₁ p₁ => wpAny_mono (hs ok A s₁ E p (R.ext p₁.1.ext q) r (p₁.1.ext.base k) (i.ext p₁.1.ext)) (fun vs s₂ p₂ => ⟨p₁.1.trans p₂.1, .cons (p₁.2.stp p₂.1) p₂.2⟩) fun _ _ x => x) fun _ _ x => x) he
/-- a call that needs to know the stack -/
def CallP (G : Gr) (n : Nat) (f : Value) (ds : List D) (d : D) : Prop := ∀ ok A s E vs l, Room n A → G.base.StaysIn s.heap → FreshOk ok s.heap → Stk G.base s.heap A l → RepAll ok s.heap vs ds →
  wpAny G.M A (call f vs) (fun v s' => Stp G.base s s' ∧ Rep ok s'.heap v d) E s
/-- what is known tells the stack -/
def Tells (G : Gr) (env : Env) (H : Around → Heap → Prop) : Prop := ∀ ok A h σ, H A h → Inv G.base ok env σ h → ∃ l, Stk G.base h A (env :: l)
theorem EvP.call {x : Str} {p pos : Pos} {es : List Expr} {f : Value} {ds : List D} {d : D} (R : Rd G.base env fp H) (T : Tells G env H) (hf : Ev G n env σ (.Name x p) (.raw f)) (c : Callee G f) (ha : EvLP G n env H σ es ds) (hc : CallP G n f ds d)
    (hns : noStar es = true := by rfl) (hplain : (backTo pos (starEach es env)).any (·.1) = false := by rfl) : EvP G n env H σ (.Call (.Name x p) es [] pos) d := fun ok A s E q r k i =>
  Call_ (wpAny_mono (hf ok A s E r k i) (fun v s₁ p₁ => by
    obtain ⟨st, rp⟩ := p₁
    cases rp
    refine callWith_callee c hplain (wpAny_mono (ha ok A s₁ E pos (R.ext st.ext q) r (st.ext.base k) (i.ext st.ext)) (fun vs s₂ p₂ => ?_) fun _ _ x => x) hns
    have st2 := st.trans p₂.1
    obtain ⟨l, K⟩ := T ok A _ σ (R.ext st2.ext q) (i.ext st2.ext)
    exact ⟨st2.ext.base k, wpAny_mono (hc _ A s₂ E vs _ r (st2.ext.base k) (i.ext st2.ext).freshO K p₂.2) (fun _ _ p₃ => ⟨st2.trans p₃.1, p₃.2⟩) fun _ _ x => x⟩) fun _ _ x => x)
end
end Mine
end
section
open PySem PySem.W PyProof.Rows PySem.Calls
set_option maxRecDepth 100000
namespace Mine
/-- the frame and those below it -/
def HS (base : Heap) (env : Env) (l : List Env) : Around → Heap → Prop := fun A h => A.frames = some (env :: l) ∧ env.frame = some env.locals ∧
  ∀ env' ∈ l, env'.scope.kind = .function ∧ ∃ L m, env'.frame = some L ∧ base.get? L = none ∧ h.Ns L m ∧ L ≠ env.locals
def fpS (l : List Env) : Addr → Prop := fun b => ∃ env' ∈ l, env'.frame = some b
theorem ns_same {base h h' : Heap} {b : Addr} {m : Str → Option Value} (k : Same1 base h h' b) (n : h.Ns b m) : h'.Ns b m := by
  obtain ⟨o, es, ep, e, d, r⟩ := n
  obtain ⟨o', e', _, d', _⟩ := k o e
  exact ⟨o', es, ep, e', d'.trans d, r⟩
theorem rdS {base : Heap} {env : Env} {l : List Env} : Rd base env (fpS l) (HS base env l) where
  keep := fun A h h' ⟨a, b, c⟩ k => ⟨a, b, fun e he => let ⟨c1, L, m, c2, c3, c4, c5⟩ := c e he; ⟨c1, L, m, c2, c3, ns_same (k L ⟨e, he, c2⟩) c4, c5⟩⟩
  apart := fun A h ⟨a, b, c⟩ F x ⟨e, he, hx⟩ => by
    obtain ⟨c1, L, m, c2, c3, c4, c5⟩ := c e he
    rw [hx] at c2; cases c2
    obtain ⟨o, es, ep, e1, d1, _⟩ := c4
    refine ⟨by rw [e1]; rfl, ?_, ?_⟩
    · rintro (w | ⟨y, w⟩)
      · exact c5 w
      · obtain ⟨v, o2, e2, d2⟩ := F.cells y _ w
        rw [e1] at e2; cases e2; rw [d1] at d2; cases d2
    · rintro vs ⟨k, e2⟩
      rw [e1] at e2; cases e2; cases d1
theorem HS.stk {base h : Heap} {env : Env} {l : List Env} {A : Around} (x : HS base env l A h) (F : Frame env h) (off : base.get? env.locals = none) : Stk base h A (env :: l) := by
  obtain ⟨a, b, c⟩ := x
  refine ⟨a, fun e he => ?_⟩
  rcases List.mem_cons.mp he with q | q
  · subst q; exact ⟨F.kind, let ⟨m, q⟩ := F.ns; ⟨_, m, b, off, q⟩⟩
  · obtain ⟨c1, L, m, c2, c3, c4, _⟩ := c e q
    exact ⟨c1, L, m, c2, c3, c4⟩
theorem tellsS {G : Gr} {env : Env} {l : List Env} : Tells G env (HS G.base env l) := fun ok A h σ x i => ⟨l, x.stk i.frame (i.off _ (.inl (.inl rfl)))⟩
section
variable {G : Gr} {n : Nat}
/-- into a def's frame -/
theorem call_enter {d : DefRec} {a : Addr} {ds : List D} {Q : Value → Shared → Prop} {E : Value → Shared → Prop} {ok : Addr → Prop} {A : Around} {s : Shared} {vs : List Value} (F : FnAt G d a) (hds : d.params.args.length = ds.length)
    (hbind : ∀ pm code doc vs, vs.length = ds.length → bindArgs (docDef d.name d.params d.body d.scope pm code doc) ⟨vs, []⟩ = pure ((d.params.args.map (·.arg)).zip vs))
    (hkind : (d.params.args.all fun y => d.scope.names.lookup y.arg == some .local || d.scope.names.lookup y.arg == some .cell) = true) (hnd : (d.params.args.map (·.arg)).Nodup)
    (hco : d.scope.isCoroutine = false) (hgen : d.scope.isGenerator = false) (hk : d.scope.kind = .function)
    (rm : Room (n + 1) A) (k : G.base.StaysIn s.heap) (fr : FreshOk ok s.heap) (rs : RepAll ok s.heap vs ds)
    (h : ∀ env s₁, FEnv env d.scope → env.frame = some env.locals → Stp G.base s s₁ → Inv G.base ok env ((d.params.args.map (·.arg)).zip (ds.map Slot.val)) s₁.heap → (∀ b, FrW env b → s.heap.get? b = none) → Room n (A.deeper env) →
      wpAny G.M (A.deeper env) (execs d.body env) (fun f s' => Q (match f with | .ret v => v | _ => .none) s') (fun x s' => wpAny G.M (A.deeper env) (leaving env x) (fun _ s'' => E x s'') E s') s₁) :
    wpAny G.M A (call (.ref a) vs) Q E s := by
  obtain ⟨o, pm, code, doc, ho, hd, hcd⟩ := F.obj
  refine wpAny_call (codeAny_call_cells (fd := docDef d.name d.params d.body d.scope pm code doc) (body := d.body) (vals := vs) (binds := (d.params.args.map (·.arg)).zip vs) (by have := rm.depth; omega) (k _ _ ho) hd (G.nolimit.keeps k) (hcd.keeps k) rfl (hbind _ _ _ _ rs.length) rfl ?_ (fun s₁ x => ?_) hco hgen hk)
  · intro p hp
    have hm : p.1 ∈ d.params.args.map (·.arg) := (List.of_mem_zip hp).1
    obtain ⟨y, hy, e⟩ := List.mem_map.mp hm
    have := List.all_eq_true.mp hkind y hy
    rw [e] at this
    exact kindsX (scope := d.scope) (binds := [(p.1, p.2)]) (by simpa using this) _ (p.1, p.2) (by simp)
  · generalize henv : callEnvC (docDef d.name d.params d.body d.scope pm code doc) s.heap.objs.size a = env at x ⊢
    have hsc : env.scope = d.scope := by rw [← henv]; rfl
    have hcs : env.cells = cellsFrom (s.heap.objs.size + 1) d.scope.names [] := by rw [← henv]; rfl
    have hfl : env.frame = some env.locals := by rw [← henv]; rfl
    have FE : FEnv env d.scope := ⟨hsc, fun y hy => by rw [hcs]; exact cellsFrom_some _ _ _ (.inl hy)⟩
    have hnoL : ∀ b, s.heap.objs.size ≤ b → s.heap.get? b = none := fun b hb => by
      cases q : s.heap.get? b with
      | none => rfl
      | some o => exact absurd (Nat.lt_of_lt_of_le (Heap.lt_size q) hb) (Nat.lt_irrefl _)
    have hfw : ∀ b, FrW env b → s.heap.get? b = none := fun b w => by
      rcases w with w | ⟨y, w⟩
      · exact hnoL b (w ▸ x.toInCall.fresh)
      · exact hnoL b (Nat.le_of_lt (Nat.lt_of_le_of_lt x.toInCall.fresh (x.above y b (mem_of_lookup w))))
    have hvl : ((d.params.args.map (·.arg)).zip vs).map (·.1) = d.params.args.map (·.arg) := by
      rw [List.map_fst_zip]; rw [List.length_map, hds, rs.length]; exact Nat.le_refl _
    have hnd' : (((d.params.args.map (·.arg)).zip vs).map (·.1)).Nodup := by rw [hvl]; exact hnd
    have st : Stp G.base s s₁ := by
      obtain ⟨h', tk, rfl, hkp⟩ := x.done
      exact .heap hkp
    have inv : Inv G.base ok env ((d.params.args.map (·.arg)).zip (ds.map Slot.val)) s₁.heap := by
      refine ⟨⟨by rw [hsc]; exact hk, ⟨_, x.toInCall.ns⟩, fun y c l => ⟨_, x.cell y c l⟩, x.apart, fun y c l => Nat.ne_of_gt (x.above y c (mem_of_lookup l)), by rw [← henv]; rfl, by rw [← henv]; rfl⟩,
        fun b w => ?_, fr.stp st.ext, fun y e l => ?_, fun y b es l => absurd l (lookup_zip_own _ _), fun b w => ?_, ?_⟩
      · rw [Wr, owned_zip] at w
        have := hfw b (w.elim id fun z => nomatch z)
        cases q : G.base.get? b with
        | none => rfl
        | some o => rw [k b o q] at this; cases this
      · obtain ⟨v, hm, rp⟩ := repAll_zip rs l
        refine ⟨v, ?_, (rp.stp st).weak fun b q => ⟨q, by rw [owned_zip]; simp⟩⟩
        have hy : y ∈ d.params.args.map (·.arg) := (List.of_mem_zip hm).1
        obtain ⟨z, hz, e⟩ := List.mem_map.mp hy
        have hkd := List.all_eq_true.mp hkind z hz
        rw [e] at hkd
        rcases Bool.or_eq_true_iff.mp hkd with q | q
        · have q' : env.kindOf y = some .local := FE.kind (by simpa using q)
          exact .inl ⟨q', _, x.toInCall.ns, bindL_get _ q' _ _ hnd' hm⟩
        · have q0 : d.scope.names.lookup y = some .cell := by simpa using q
          have q' : env.kindOf y = some .cell := FE.kind q0
          obtain ⟨c, hc⟩ := Option.isSome_iff_exists.mp (FE.cells y q0)
          refine .inr ⟨.inl q', c, hc, ?_⟩
          have := x.cell y c hc
          rw [bindC_get _ q' _ _ hnd' hm] at this
          exact this
      · rw [owned_zip] at w; cases w
      · rw [owned_zip]; exact List.nodup_nil
    exact h env s₁ FE hfl st inv hfw rm.deeper
theorem HS.enter {base : Heap} {A : Around} {s s₁ : Shared} {l : List Env} {env : Env} (K : Stk base s.heap A l) (st : Stp base s s₁) (hfl : env.frame = some env.locals) (hfw : ∀ b, FrW env b → s.heap.get? b = none) : HS base env l (A.deeper env) s₁.heap :=
  ⟨Around.frames_deeper K.frames, hfl, fun e he => let ⟨c1, L, m, c2, c3, c4⟩ := K.funs e he; ⟨c1, L, m, c2, c3, st.ext.ns c4, fun z => by
    have := hfw L (.inl z)
    obtain ⟨o, _, _, e1, _⟩ := c4
    rw [e1] at this; cases this⟩⟩
theorem CallP.def {d : DefRec} {a : Addr} {ds : List D} {r : D} (F : FnAt G d a) (hds : d.params.args.length = ds.length)
    (hbind : ∀ pm code doc vs, vs.length = ds.length → bindArgs (docDef d.name d.params d.body d.scope pm code doc) ⟨vs, []⟩ = pure ((d.params.args.map (·.arg)).zip vs))
    (hkind : (d.params.args.all fun y => d.scope.names.lookup y.arg == some .local || d.scope.names.lookup y.arg == some .cell) = true) (hnd : (d.params.args.map (·.arg)).Nodup)
    (h : ∀ env l, FEnv env d.scope → ExP G n env (HS G.base env l) ((d.params.args.map (·.arg)).zip (ds.map Slot.val)) d.body fun fl _ => fl = .ret r)
    (hco : d.scope.isCoroutine = false) (hgen : d.scope.isGenerator = false) (hk : d.scope.kind = .function) : CallP G (n + 1) (.ref a) ds r := fun ok A s E vs l rm k fr K rs => by
  refine call_enter F hds hbind hkind hnd hco hgen hk rm k fr rs fun env s₁ FE hfl st inv hfw rm' => ?_
  refine wpAny_mono (h env l FE ok _ s₁ (fun _ _ => False) (HS.enter K st hfl hfw) rm' (st.ext.base k) inv) (fun f s₂ q => ?_) fun _ _ x => x.elim
  obtain ⟨fl, σ', rfl, fi, _, mv, _, _⟩ := q
  cases f with
  | ret v =>
    refine ⟨?_, fi⟩
    have m2 : Mv G.base (FrW env) s s₂ := ((st.mv (W := FrW env))).trans mv fun b w => by rw [Wr, owned_zip] at w; exact .inl (w.elim id fun z => nomatch z)
    exact m2.stp hfw
  | _ => exact fi.elim
/-- what a raise leaves -/
def RX (G : Gr) (X : String) (msg : Str) (s : Shared) (x : Value) (s' : Shared) : Prop := ∃ e w, x = .ref e ∧ (w = .new ∨ w = .fly) ∧ Exc G.base X msg w s s' e
def CallX (G : Gr) (n : Nat) (f : Value) (ds : List D) (X : String) (msg : Str) : Prop := ∀ ok A s vs l, Room n A → G.base.StaysIn s.heap → FreshOk ok s.heap → Stk G.base s.heap A l → RepAll ok s.heap vs ds →
  wpAny G.M A (call f vs) (fun _ _ => False) (RX G X msg s) s
def CmpX (G : Gr) (n : Nat) (op : CmpOp) (da db : D) (X : String) (msg : Str) : Prop := ∀ ok A s va vb, Room n A → G.base.StaysIn s.heap → FreshOk ok s.heap → Rep ok s.heap va da → Rep ok s.heap vb db →
  wpAny G.M A (compareOp op va vb) (fun _ _ => False) (RX G X msg s) s
def BinX (G : Gr) (n : Nat) (op : Operator) (da db : D) (X : String) (msg : Str) : Prop := ∀ ok A s va vb, Room n A → G.base.StaysIn s.heap → FreshOk ok s.heap → Rep ok s.heap va da → Rep ok s.heap vb db →
  wpAny G.M A (binaryOp op va vb) (fun _ _ => False) (RX G X msg s) s
theorem RX.of_stp {X : String} {msg : Str} {s s₁ s' : Shared} {x : Value} (h : RX G X msg s₁ x s') (st : Stp G.base s s₁) : RX G X msg s x s' :=
  let ⟨e, w, a, b, c⟩ := h; ⟨e, w, a, b, c.of_stp st⟩
section
variable {env : Env} {σ : St} {fp : Addr → Prop} {H : Around → Heap → Prop} {X : String} {msg : Str}
def EvX (G : Gr) (n : Nat) (env : Env) (H : Around → Heap → Prop) (σ : St) (e : Expr) (X : String) (msg : Str) : Prop := ∀ ok A s, H A s.heap → Room n A → G.base.StaysIn s.heap → Inv G.base ok env σ s.heap →
  wpAny G.M A (eval e env) (fun _ _ => False) (RX G X msg s) s
def TrX (G : Gr) (n : Nat) (env : Env) (H : Around → Heap → Prop) (σ : St) (e : Expr) (X : String) (msg : Str) : Prop := ∀ ok A s, H A s.heap → Room n A → G.base.StaysIn s.heap → Inv G.base ok env σ s.heap →
  wpAny G.M A (isTrue e env (eval e env)) (fun _ _ => False) (RX G X msg s) s
/-- where a body's raise leaves the frame's own: at s₁, all behind that is the exception's way -/
def RB (G : Gr) (env : Env) (H : Around → Heap → Prop) (σ : St) (X : String) (msg : Str) (A : Around) (s : Shared) (x : Value) (s' : Shared) : Prop :=
  ∃ s₁ e w, x = .ref e ∧ (w = .new ∨ w = .fly ∨ ∃ L, w = .at L ∧ env.frame = some L) ∧ Mv G.base (Wr env σ) s s₁ ∧ Frame env s₁.heap ∧ H A s₁.heap ∧ Exc G.base X msg w s₁ s' e
def ExX (G : Gr) (n : Nat) (env : Env) (H : Around → Heap → Prop) (σ : St) (body : List Stmt) (X : String) (msg : Str) : Prop := ∀ ok A s, H A s.heap → Room n A → G.base.StaysIn s.heap → Inv G.base ok env σ s.heap →
  wpAny G.M A (execs body env) (fun _ _ => False) (RB G env H σ X msg A s) s
def ExX1 (G : Gr) (n : Nat) (env : Env) (H : Around → Heap → Prop) (σ : St) (st : Stmt) (X : String) (msg : Str) : Prop := ∀ ok A s, H A s.heap → Room n A → G.base.StaysIn s.heap → Inv G.base ok env σ s.heap →
  wpAny G.M A (exec st env) (fun _ _ => False) (RB G env H σ X msg A s) s
theorem RX.rb {A : Around} {s s' : Shared} {x : Value} {ok : Addr → Prop} (h : RX G X msg s x s') (q : H A s.heap) (i : Inv G.base ok env σ s.heap) : RB G env H σ X msg A s x s' :=
  let ⟨e, w, a, b, c⟩ := h; ⟨s, e, w, a, b.elim .inl fun z => .inr (.inl z), Stp.refl.mv, i.frame, q, c⟩
theorem RB.trans {σ₁ : St} {A : Around} {s s₁ s' : Shared} {x : Value} (m : Mv G.base (Wr env σ) s s₁) (o : ∀ a ∈ owned σ₁, a ∈ owned σ ∨ s.heap.get? a = none) (h : RB G env H σ₁ X msg A s₁ x s') : RB G env H σ X msg A s x s' := by
  obtain ⟨s₂, e, w, a, b, m', f, q, c⟩ := h
  exact ⟨s₂, e, w, a, b, m.trans m' (fun p z => z.elim (fun z => .inl (.inl z)) fun z => (o p z).imp .inr id), f, q, c⟩
theorem ExX.head {st : Stmt} {rest : List Stmt} (h : ExX1 G n env H σ st X msg) : ExX G n env H σ (st :: rest) X msg := fun ok A s q r k i =>
  wpAny_execs_cons (wpAny_mono (h ok A s q r k i) (fun _ _ z => z.elim) fun _ _ z => z)
theorem ExX.step {st : Stmt} {rest : List Stmt} {P : St → Prop} (R : Rd G.base env fp H) (h : ExP1 G n env H σ st fun fl σ' => fl = .next ∧ P σ') (hr : ∀ σ', P σ' → ExX G n env H σ' rest X msg) : ExX G n env H σ (st :: rest) X msg := fun ok A s q r k i =>
  wpAny_execs_cons (wpAny_mono (h ok A s _ q r k i) (fun f s' a => by
    obtain ⟨fl, σ', ⟨rfl, hp⟩, fi, i', m, k', o⟩ := a
    cases f <;> first | exact fi.elim | skip
    exact wpAny_mono (hr σ' hp ok A s' (R.mv i m q) r k' i') (fun _ _ z => z.elim) fun _ _ z => z.trans m o) fun _ _ z => z)
theorem ExX.one {st : Stmt} {rest : List Stmt} {σ' : St} (R : Rd G.base env fp H) (h : ExP1 G n env H σ st fun fl σ'' => fl = .next ∧ σ'' = σ') (hr : ExX G n env H σ' rest X msg) : ExX G n env H σ (st :: rest) X msg :=
  .step R h fun _ e => e ▸ hr
theorem ExX.only {σ₀ : St} {body : List Stmt} (hs : Sub σ₀ σ) (h : ExX G n env H σ₀ body X msg) (hn : (σ₀.map (·.1)).Nodup := by simp; try decide) : ExX G n env H σ body X msg := fun ok A s q r k i =>
  wpAny_mono (h ok A s q r k (i.sub hs (Sub.nodup i.once hn hs))) (fun _ _ z => z.elim) fun _ _ z => z.trans Stp.refl.mv fun a w => .inl (hs.owned a w)
theorem ExX1.iteT {t : Expr} {a b : List Stmt} {pos : Pos} (h : TrX G n env H σ t X msg) : ExX1 G n env H σ (.If t a b pos) X msg := fun ok A s q r k i =>
  wpAny_If (wpAny_mono (h ok A s q r k i) (fun _ _ z => z.elim) fun _ _ z => z.rb q i)
theorem ExX1.assign {x : Str} {e : Expr} {p pos : Pos} (h : EvX G n env H σ e X msg) (hs : swapsWith e (some (.Name x p)) pos.line env = pure false := by rfl) : ExX1 G n env H σ (.Assign [.Name x p] e pos) X msg := fun ok A s q r k i =>
  wpAny_Assign_Name (wpAny_mono (h ok A s q r k i) (fun _ _ z => z.elim) fun _ _ z => z.rb q i) hs
theorem ExX1.ret {e : Expr} {pos : Pos} (h : EvX G n env H σ e X msg) : ExX1 G n env H σ (.Return (some e) pos) X msg := fun ok A s q r k i =>
  wpAny_Return_some (wpAny_mono (h ok A s q r k i) (fun _ _ z => z.elim) fun _ _ z => z.rb q i)
theorem TrX.cmp {a b : Expr} {op : CmpOp} {p : Pos} {da db : D} (ha : Ev G n env σ a da) (hb : Ev G n env σ b db) (ho : CmpX G n op da db X msg) (hm : behindInMarks op b = false := by with_unfolding_all rfl) :
    TrX G n env H σ (.Compare a [op] [b] p) X msg := fun ok A s q r k i =>
  wpAny_isTrue_Compare1 (wpAny_mono (ha ok A s _ r k i) (fun va s₁ p₁ => wpAny_mono (hb ok A s₁ _ r (p₁.1.ext.base k) (i.ext p₁.1.ext)) (fun vb s₂ p₂ =>
    have st := p₁.1.trans p₂.1
    wpAny_mono (ho _ A s₂ va vb r (st.ext.base k) (i.ext st.ext).freshO (p₁.2.stp p₂.1) p₂.2) (fun _ _ z => z.elim) fun _ _ z => z.of_stp st) fun _ _ x => x) fun _ _ x => x) hm
theorem TrX.not {e : Expr} {p : Pos} (h : TrX G n env H σ e X msg) : TrX G n env H σ (.UnaryOp .Not e p) X msg := fun ok A s q r k i =>
  isTrue_not (wpAny_mono (h ok A s q r k i) (fun _ _ z => z.elim) fun _ _ x => x)
theorem TrX.plain {e : Expr} (h : EvX G n env H σ e X msg)
    (he : ∀ whole, isTrue e env whole = (do let v ← whole; standAt e.pos; holding [v] (truthy v)) := by intro _; rfl) : TrX G n env H σ e X msg := fun ok A s q r k i =>
  isTrue_plain (wpAny_mono (h ok A s q r k i) (fun _ _ z => z.elim) fun _ _ x => x) (he _)
theorem EvX.call {x : Str} {p pos : Pos} {es : List Expr} {f : Value} {ds : List D} (R : Rd G.base env fp H) (T : Tells G env H) (hf : Ev G n env σ (.Name x p) (.raw f)) (c : Callee G f) (ha : EvLP G n env H σ es ds) (hc : CallX G n f ds X msg)
    (hns : noStar es = true := by rfl) (hplain : (backTo pos (starEach es env)).any (·.1) = false := by rfl) : EvX G n env H σ (.Call (.Name x p) es [] pos) X msg := fun ok A s q r k i =>
  Call_ (wpAny_mono (hf ok A s _ r k i) (fun v s₁ p₁ => by
    obtain ⟨st, rp⟩ := p₁
    cases rp
    refine callWith_callee c hplain (wpAny_mono (ha ok A s₁ _ pos (R.ext st.ext q) r (st.ext.base k) (i.ext st.ext)) (fun vs s₂ p₂ => ?_) fun _ _ x => x) hns
    have st2 := st.trans p₂.1
    obtain ⟨l, K⟩ := T ok A _ σ (R.ext st2.ext q) (i.ext st2.ext)
    exact ⟨st2.ext.base k, wpAny_mono (hc _ A s₂ vs _ r (st2.ext.base k) (i.ext st2.ext).freshO K p₂.2) (fun _ _ z => z.elim) fun _ _ z => z.of_stp st2⟩) fun _ _ x => x)
theorem EvX.binop {a b : Expr} {op : Operator} {p : Pos} {da db : D} (ha : Ev G n env σ a da) (hb : Ev G n env σ b db) (ho : BinX G n op da db X msg) : EvX G n env H σ (.BinOp a op b p) X msg := fun ok A s q r k i =>
  wpAny_BinOp (wpAny_mono (ha ok A s _ r k i) (fun va s₁ p₁ => wpAny_mono (hb ok A s₁ _ r (p₁.1.ext.base k) (i.ext p₁.1.ext)) (fun vb s₂ p₂ =>
    have st := p₁.1.trans p₂.1
    wpAny_mono (ho _ A s₂ va vb r (st.ext.base k) (i.ext st.ext).freshO (p₁.2.stp p₂.1) p₂.2) (fun _ _ z => z.elim) fun _ _ z => z.of_stp st) fun _ _ x => x) fun _ _ x => x)
end
theorem CallX.def {d : DefRec} {a : Addr} {ds : List D} {X : String} {msg : Str} (F : FnAt G d a) (hds : d.params.args.length = ds.length)
    (hbind : ∀ pm code doc vs, vs.length = ds.length → bindArgs (docDef d.name d.params d.body d.scope pm code doc) ⟨vs, []⟩ = pure ((d.params.args.map (·.arg)).zip vs))
    (hkind : (d.params.args.all fun y => d.scope.names.lookup y.arg == some .local || d.scope.names.lookup y.arg == some .cell) = true) (hnd : (d.params.args.map (·.arg)).Nodup)
    (h : ∀ env l, FEnv env d.scope → ExX G n env (HS G.base env l) ((d.params.args.map (·.arg)).zip (ds.map Slot.val)) d.body X msg)
    (hco : d.scope.isCoroutine = false) (hgen : d.scope.isGenerator = false) (hk : d.scope.kind = .function) : CallX G (n + 1) (.ref a) ds X msg := fun ok A s vs l rm k fr K rs => by
  refine call_enter F hds hbind hkind hnd hco hgen hk rm k fr rs fun env s₁ FE hfl st inv hfw rm' => ?_
  refine wpAny_mono (h env l FE ok _ s₁ (HS.enter K st hfl hfw) rm' (st.ext.base k) inv) (fun f s₂ z => z.elim) fun x s' z => ?_
  obtain ⟨s₂, e, w, rfl, hw, mv, fr2, h2, ex⟩ := z
  have off : G.base.get? env.locals = none := inv.off _ (.inl (.inl rfl))
  refine ex.leave (h2.stk fr2 off) (fun L q => ?_) fun s'' ex' => ⟨e, .fly, rfl, .inr rfl, ?_⟩
  · rcases hw with hw | hw | ⟨L', hw, hL⟩
    · rw [hw] at q; cases q
    · rw [hw] at q; cases q
    · rw [hw] at q; cases q; exact hL
  · have m2 : Mv G.base (FrW env) s s₂ := ((st.mv (W := FrW env))).trans mv fun b w => by rw [Wr, owned_zip] at w; exact .inl (w.elim id fun z => nomatch z)
    exact ex'.of_mv m2 hfw
end
end Mine
end
section
open PySem PySem.W PyProof.Rows PySem.Calls
set_option maxRecDepth 100000
namespace Mine
section
variable {α : Type} {M : Model} {A : Around} {E : Value → Shared → Prop} {s : Shared} {base : Heap} {X : String}
theorem Exc.made {h' : Heap} {tk : Nat} {e t : Addr} {msg : Str} {tk' : Tok} {vs : Array Value} {o : Obj} (k : ∀ b o, s.heap.get? b = some o → h'.get? b = some o) (new : s.heap.get? e = none) (he : h'.get? e = some o) (hc : o.cls = .type X) (hd : o.data = .fields vs) (h0 : vs[0]? = some (.ref t)) (h1 : vs[1]? = some .none) (h2 : vs[2]? = some .none)
    (ht : h'.TupAt t [.str msg tk']) : Exc base X msg .new s { s with heap := h', toks := tk } e :=
  ⟨.heap k, new, t, tk', ⟨o, vs, he, hc, hd, h0, h1, h2⟩, ht⟩
theorem raise_made {msg : String} {Q : α → Shared → Prop} (hh : A.handled = none) (h : ∀ s' e, Exc base "TypeError" msg .new s s' e → E (.ref e) s') (hm : (msg : Str).length ≤ sizeLine := by size_fits) : wpAny M A (raiseErrorMade "TypeError" msg : Sem α) Q E s := by
  unfold raiseErrorMade
  refine wpAny_bind (wpAny_mkStr (wpAny_bind ?_) hm)
  unfold newExc newTuple
  refine wpAny_bind (wpAny_newObj_type ?_)
  refine wpAny_bind (m := firstArgMember _ _) (wpAny_of_eq (a := Value.none) (by simp only [firstArgMember, typeError_no_first]; rfl) ?_)
  rw [ownMembersOf_TypeError]
  refine wpAny_newObj_type ?_
  unfold raiseNew
  refine wpAny_bind (wpAny_handled ?_)
  rw [hh]
  first
    | refine wpAny_throw ?_
    | refine wpAny_bind (wpAny_pure (wpAny_throw ?_))
  refine h _ _ (Exc.made (t := s.heap.objs.size) (fun b o hb => Heap.get?_push_of_some _ (Heap.get?_push_of_some _ hb)) (Heap.get?_none_of_le (by simp)) (Heap.get?_push_size _ rfl) rfl rfl (by simp) (by simp) (by simp) ⟨_, _, Heap.get?_push_of_some _ (Heap.get?_push_size _ rfl), rfl, rfl⟩)
theorem sub_te_te : isSubtype (.type "TypeError") (.type "TypeError") = pure true := by rw [isSubtype_type]; kernel_rfl
theorem Exc.typeIs {way : Way} {msg : Str} {s' : Shared} {e : Addr} (x : Exc base X msg way s s' e) : s'.TypeIs (.ref e) X := by
  obtain ⟨st, new, t, tk, it, tup⟩ := x
  cases way with
  | new => obtain ⟨oe, vs, he, hc, _⟩ := it; exact ⟨oe, he, hc⟩
  | fly => obtain ⟨oe, vs, T, oT, ts, he, hc, _⟩ := it; exact ⟨oe, he, hc⟩
  | «at» L => obtain ⟨oe, vs, T, oT, ts, he, hc, _⟩ := it; exact ⟨oe, he, hc⟩
/-- x in v where v cannot be walked -/
theorem contains_raises {c x : Value} {T : String} {msg : String} {Q : Bool → Shared → Prop} (hh : A.handled = none) (hT : ∀ s' : Shared, s'.TypeIs c T) (hnm : stdlibNamesSay? c x = none)
    (hc : typeLookup (.type T) "__contains__" = pure none) (hi : typeLookup (.type T) "__iter__" = pure none) (hg : typeLookup (.type T) "__getitem__" = pure none)
    (hn : (Value.type T == Value.type "builtin_function_or_method") = false) (hm : s!"argument of type '{shownName T}' is not iterable" = msg) (hz1 : (s!"'{shownName T}' object is not iterable" : Str).length ≤ sizeLine) (hz2 : (msg : Str).length ≤ sizeLine)
    (h : ∀ s' e, Exc base "TypeError" msg .new s s' e → E (.ref e) s') : wpAny M A (contains c x) Q E s := by
  unfold contains
  refine wpAny_holding ?_
  rw [hnm]
  refine wpAny_bind (wpAny_specialOf (hT s) hc ?_)
  show wpAny M A (if ((none : Option Value) == some Value.none) = true then _ else _) Q E s
  rw [if_neg (by decide)]
  refine wpAny_bind (wpAny_callSpecialUnlessNone?_none (hT s) hc ?_)
  refine wpAny_bind (wpAny_rule (wpAny_bind (wpAny_tryCatch (m := pyIter c) ?_)))
  unfold pyIter
  refine wpAny_bind (wpAny_specialOf (hT s) hi ?_)
  refine wpAny_bind (wpAny_specialOf (hT s) hg ?_)
  refine wpAny_bind (wpAny_rule (wpAny_bind (wpAny_typeNameOf' (hT s) hn ?_)))
  refine raise_made (base := base) hh (fun s₁ e₁ x₁ => ?_) hz1
  refine wpAny_bind (wpAny_isInstance x₁.typeIs sub_te_te ?_)
  rw [if_pos rfl]
  refine wpAny_bind (wpAny_typeNameOf' (hT s₁) hn ?_)
  rw [hm]
  exact raise_made (base := base) hh (fun s₂ e₂ x₂ => h s₂ e₂ (x₂.of_stp x₁.stp)) hz2
end
theorem lk_none_contains : typeLookup (.type "NoneType") "__contains__" = pure none := by rw [typeLookup_type, builtinLookup_eq_fast]; kernel_rfl
theorem lk_none_iter : typeLookup (.type "NoneType") "__iter__" = pure none := by rw [typeLookup_type, builtinLookup_eq_fast]; kernel_rfl
theorem lk_none_getitem : typeLookup (.type "NoneType") "__getitem__" = pure none := by rw [typeLookup_type, builtinLookup_eq_fast]; kernel_rfl
theorem lk_int_contains : typeLookup (.type "int") "__contains__" = pure none := by rw [typeLookup_type, builtinLookup_eq_fast]; kernel_rfl
theorem lk_int_iter : typeLookup (.type "int") "__iter__" = pure none := by rw [typeLookup_type, builtinLookup_eq_fast]; kernel_rfl
theorem lk_int_getitem : typeLookup (.type "int") "__getitem__" = pure none := by rw [typeLookup_type, builtinLookup_eq_fast]; kernel_rfl
theorem lk_bool_contains : typeLookup (.type "bool") "__contains__" = pure none := by rw [typeLookup_type, builtinLookup_eq_fast]; kernel_rfl
theorem lk_bool_iter : typeLookup (.type "bool") "__iter__" = pure none := by rw [typeLookup_type, builtinLookup_eq_fast]; kernel_rfl
theorem lk_bool_getitem : typeLookup (.type "bool") "__getitem__" = pure none := by rw [typeLookup_type, builtinLookup_eq_fast]; kernel_rfl
theorem shown_none : shownName "NoneType" = "NoneType" := by unfold shownName; decide +kernel
theorem shown_int : shownName "int" = "int" := by unfold shownName; decide +kernel
theorem shown_bool : shownName "bool" = "bool" := by unfold shownName; decide +kernel
theorem shown_str : shownName "str" = "str" := by unfold shownName; decide +kernel
section
variable {G : Gr} {n : Nat}
theorem CmpX.notIn_none {y : Str} : CmpX G n .NotIn (.str y) .none "TypeError" "argument of type 'NoneType' is not iterable" := fun ok A s va vb r k f ra rb => by
  cases ra; cases rb
  show wpAny G.M A (do return Value.bool (!(← contains .none _))) _ _ s
  exact wpAny_bind (contains_raises r.handled (fun _ => rfl) rfl lk_none_contains lk_none_iter lk_none_getitem (by decide) (by rw [shown_none]; rfl) (by rw [shown_none]; size_fits) (by size_fits) fun s' e x => ⟨e, .new, rfl, .inl rfl, x⟩)
theorem CmpX.notIn_int {y : Str} {i : Int} : CmpX G n .NotIn (.str y) (.int i) "TypeError" "argument of type 'int' is not iterable" := fun ok A s va vb r k f ra rb => by
  cases ra; cases rb
  show wpAny G.M A (do return Value.bool (!(← contains (.int i _) _))) _ _ s
  exact wpAny_bind (contains_raises r.handled (fun s => typeIs_int s _ _) rfl lk_int_contains lk_int_iter lk_int_getitem (by decide) (by rw [shown_int]; rfl) (by rw [shown_int]; size_fits) (by size_fits) fun s' e x => ⟨e, .new, rfl, .inl rfl, x⟩)
theorem CmpX.notIn_bool {y : Str} {b : Bool} : CmpX G n .NotIn (.str y) (.bool b) "TypeError" "argument of type 'bool' is not iterable" := fun ok A s va vb r k f ra rb => by
  cases ra; cases rb
  show wpAny G.M A (do return Value.bool (!(← contains (.bool b) _))) _ _ s
  exact wpAny_bind (contains_raises r.handled (fun _ => rfl) rfl lk_bool_contains lk_bool_iter lk_bool_getitem (by decide) (by rw [shown_bool]; rfl) (by rw [shown_bool]; size_fits) (by size_fits) fun s' e x => ⟨e, .new, rfl, .inl rfl, x⟩)
end
end Mine
end
section
open PySem PySem.W PyProof.Rows PySem.Calls
set_option maxRecDepth 100000
namespace Mine
theorem slot_bytes_contains : PySem.Slot "bytes" "__contains__" "bytes.__contains__" :=
  .of (owner := "bytes") (n := "__contains__") (by rw [typeLookup_type, builtinLookup_eq_fast]; kernel_rfl) (by decide +kernel) (by decide +kernel) (by decide +kernel)
    (by first | exact .inl (by decide +kernel) | exact .inr (by decide +kernel)) (by rw [isSubtype_type]; kernel_rfl)
theorem entry_bytes_contains : entryFor table "bytes.__contains__" = some Builtin.«bytes.__contains__» := entryFor_of_tree (by kernel_rfl)
theorem owner_bytes : Manifest.owners.lookup (String.ofList ['s', 'e', 't', 'y', 'b'].reverse) = some Manifest.sig_bytes := by kernel_rfl
theorem args_bytes_contains (a b : Value) : argsOk "bytes.__contains__" ⟨[a, b], []⟩ := by
  unfold argsOk; rw [signature?_of (id := "bytes.__contains__") (n := ['_', '_', 's', 'n', 'i', 'a', 't', 'n', 'o', 'c', '_', '_']) (o := ['s', 'e', 't', 'y', 'b']) (by kernel_rfl) owner_bytes]; kernel_rfl
theorem lk_str_index : typeLookup (.type "str") "__index__" = pure none := by rw [typeLookup_type, builtinLookup_eq_fast]; kernel_rfl
theorem lk_str_buffer : typeLookup (.type "str") "__buffer__" = pure none := by rw [typeLookup_type, builtinLookup_eq_fast]; kernel_rfl
theorem lk_bytes_buffer : typeLookup (.type "bytes") "__buffer__" = pure (some (.builtin "bytes.__buffer__")) := by rw [typeLookup_type, builtinLookup_eq_fast]; kernel_rfl
theorem lk_bytes_release : typeLookup (.type "bytes") "__release_buffer__" = pure none := by rw [typeLookup_type, builtinLookup_eq_fast]; kernel_rfl
theorem sub_bytes_bytes : isSubtype (.type "bytes") (.type "bytes") = pure true := by rw [isSubtype_type]; kernel_rfl
section
variable {M : Model} {A : Around} {E : Value → Shared → Prop} {s : Shared} {base : Heap}
theorem buffer_bytes {id : String} {b : Array UInt8} {t : Tok} {Q : Option (Array UInt8) → Shared → Prop} (h : Q (some b) s) : wpAny M A (Builtin.Bytes.buffer? id (.bytes b t)) Q E s := by
  have hT : s.TypeIs (.bytes b t) "bytes" := rfl
  have h1 := lk_bytes_buffer
  have h2 := lk_bytes_release
  have h3 := sub_bytes_bytes
  unfold Builtin.Bytes.buffer?
  refine wpAny_bind (wpAny_specialOf hT lk_bytes_buffer ?_)
  dsimp only
  unfold Builtin.Bytes.slotIsOwn
  refine wpAny_bind (wpAny_bind (wpAny_specialOf hT lk_bytes_buffer ?_))
  have he : "bytes.__buffer__".endsWith ("." ++ "__buffer__") = true := by decide +kernel
  have hr : "bytes.__buffer__".dropRight ("__buffer__".length + 1) = "bytes" := by decide +kernel
  dsimp only
  rw [he, hr]
  rw [if_neg (by decide)]
  refine wpAny_isInstance hT sub_bytes_bytes ?_
  rw [if_neg (by decide)]
  refine wpAny_bind (wpAny_specialOf hT lk_bytes_buffer ?_)
  unfold Builtin.Bytes.ownRelease Builtin.Bytes.slotIsOwn
  refine wpAny_bind (wpAny_bind (wpAny_bind (wpAny_specialOf hT lk_bytes_release ?_)))
  refine wpAny_pure (wpAny_pure ?_)
  rw [if_neg (by decide)]
  unfold Builtin.Bytes.payload Builtin.Bytes.payload?
  exact wpAny_bind (wpAny_bind (wpAny_pure (wpAny_pure (wpAny_pure h))))
theorem buffer_str {id : String} {x : Str} {t : Tok} {Q : Option (Array UInt8) → Shared → Prop} (h : Q none s) : wpAny M A (Builtin.Bytes.buffer? id (.str x t)) Q E s := by
  have hT : s.TypeIs (.str x t) "str" := rfl
  unfold Builtin.Bytes.buffer?
  refine wpAny_bind (wpAny_specialOf hT lk_str_buffer ?_)
  refine wpAny_bind (wpAny_specialOf hT lk_str_buffer ?_)
  exact wpAny_pure h
theorem asIndex_str {x : Str} {t : Tok} {Q : Int → Shared → Prop} (hh : A.handled = none) (h : ∀ s' e, Exc base "TypeError" "'str' object cannot be interpreted as an integer" .new s s' e → E (.ref e) s') : wpAny M A (asIndex (.str x t)) Q E s := by
  have hT : s.TypeIs (.str x t) "str" := rfl
  unfold asIndex
  show wpAny M A (do let a ← asInt? (.str x t); _) Q E s
  unfold asInt?
  have h1 := lk_str_index
  have h2 : notAStandIn (.str x t) = pure () := rfl
  refine wpAny_bind (wpAny_bind (wpAny_of_eq h2 (wpAny_pure ?_)))
  dsimp only
  refine wpAny_bind (wpAny_callSpecial?_none hT lk_str_index ?_)
  dsimp only
  unfold typeNameOfCut shownTypeOf
  refine wpAny_bind (wpAny_bind (wpAny_bind (wpAny_typeOf hT ?_)))
  rw [if_neg (by decide)]
  refine wpAny_pure ?_
  refine wpAny_of_eq (a := shownName "str") rfl ?_
  rw [shown_str]
  exact raise_made hh h
/-- x in bytes, x a text -/
theorem contains_bytes {b : Array UInt8} {t : Tok} {x : Str} {u : Tok} {prog : Program} {w : World} {Q : Bool → Shared → Prop} (hh : A.handled = none) (h : ∀ s' e, Exc base "TypeError" "a bytes-like object is required, not 'str'" .new s s' e → E (.ref e) s') : wpAny (model prog w) A (contains (.bytes b t) (.str x u)) Q E s := by
  refine contains_slot (T := "bytes") rfl slot_bytes_contains (wpAny_call_entry slot_bytes_contains rfl entry_bytes_contains ?_ (args_bytes_contains _ _))
  show wpAny (model prog w) A.in1 (do ret (.bool (← Builtin.Bytes.containsIn "bytes.__contains__" (.bytes b t) (.str x u)))) _ _ s
  refine wpAny_bind ?_
  unfold Builtin.Bytes.containsIn
  refine wpAny_bind (wpAny_attempt (asIndex_str (base := base) hh fun s₁ e₁ x₁ => ?_))
  refine wpAny_bind (buffer_bytes ?_)
  dsimp only
  refine wpAny_bind (buffer_str ?_)
  dsimp only
  refine wpAny_bind (wpAny_rule (wpAny_bind (wpAny_typeNameOf' (T := "str") rfl (by decide) ?_)))
  rw [shown_str]
  exact raise_made (base := base) hh fun s₂ e₂ x₂ => h s₂ e₂ (x₂.of_stp x₁.stp)
end
section
variable {G : Gr} {n : Nat}
theorem CmpX.notIn_bytes {y : Str} {b : Array UInt8} : CmpX G n .NotIn (.str y) (.bytes b) "TypeError" "a bytes-like object is required, not 'str'" := fun ok A s va vb r k f ra rb => by
  cases ra; cases rb
  show wpAny G.M A (do return Value.bool (!(← contains (.bytes b _) _))) _ _ s
  exact wpAny_bind (contains_bytes r.handled fun s' e x => ⟨e, .new, rfl, .inl rfl, x⟩)
end
end Mine
end
section
open PySem PySem.W PyProof.Rows PySem.Calls
set_option maxRecDepth 100000
namespace Mine
section
variable {G : Gr} {n : Nat} {env : Env} {σ : St} {sc : Scope}
theorem CallD.tupleOf {ds : List D} (hz : ds.length ≤ sizeLine) : CallD G n (.type "tuple") [.list ds] (.tuple ds) := fun ok A s E vs r k f rs => by
  cases rs with
  | cons a rs =>
    cases rs
    cases a with
    | @list a vs _ o l rr =>
      refine call_tuple_list l (fun h' hk => ?_) (by rw [List.size_toArray, rr.length]; exact hz)
      have st : Stp G.base s { s with heap := h', toks := s.toks } := .heap hk
      have st2 : Stp G.base { s with heap := h' } { s with heap := h'.push { cls := .type "tuple", data := .seq vs.toArray }, toks := s.toks } := .push (s := { s with heap := h' })
      refine ⟨st.trans st2, .tuple (f _ (st.ext.none fresh_get)) ⟨_, Heap.get?_push_size _ rfl, rfl, _, rfl⟩ ((rr.stp st).stp st2)⟩
end
end Mine
end
section
open PySem PySem.W PyProof.Rows PySem.Calls
set_option maxRecDepth 100000
namespace Mine
section
variable {p : Program} {loose : List Str} {mean : ExcName → Option Value} {mg mb : Str → Option Value} {s₁ : Shared} {prog : Program} {w : World}
/-- the same end for a law that leans on the stack -/
theorem law_finP {c : ClaimW} {cl : Str → Option Addr} {mean' : ExcName → Option Value} {args : List WData} {fa aL : Addr} {vs : List Value} {ns : List Int} {n : Nat} (T : Top p loose mean mg mb s₁.heap) (hL : s₁.heap.IsList aL vs.toArray) (hI : IntsAre vs ns) (hg : s₁.gens = #[])
    (law : CallP (groundOf T prog w) n (.ref fa) [.list (ns.map .int)] (.bool true)) (hn : n ≤ 90) (hr : ∀ cls, c.raises args cls = false) (hp : c.post args (.bool true) args = true) :
    wpAny (model prog w) callerA (call (.ref fa) [.ref aL]) (fun v s' => GoodWG c cl mean' args s₁ (.ok (.ret v)) s') (fun e s' => GoodWG c cl mean' args s₁ (.error e) s') s₁ := by
  have room : Room n callerA := ⟨rfl, by
    have : (callerA.depth + 90 < recursionLimit) := by decide +kernel
    omega, by
    have : (callerA.units + 30 * 90 + 500 < cLine) := by decide +kernel
    omega⟩
  refine wpAny_mono (law (fun _ => True) callerA s₁ _ [.ref aL] [] room (fun _ _ e => e) (fun _ _ => trivial) ⟨rfl, fun _ h => nomatch h⟩ (.cons (.list trivial hL (rep_ints hI)) .nil)) (fun v s' q => ?_) fun _ _ x => x
  obtain ⟨st, r⟩ := q
  cases r
  have base : Heap.StaysIn s₁.heap s'.heap := st.ext.base (fun _ _ e => e)
  exact ⟨.inl ⟨_, _, _, rfl, hr, .bool true, hp, unshared_nil⟩, .of_keep base, st.os, fun x hx => st.gens.bare (fun y hy => by rw [hg] at hy; simp at hy) x hx⟩
end
section
variable {G : Gr} {n : Nat}
theorem CallP.fn1 {d : DefRec} {a : Addr} {d1 r : D} {x : Str} (F : FnAt G d a) (h : ∀ env l, FEnv env d.scope → ExP G n env (HS G.base env l) [(x, .val d1)] d.body fun fl _ => fl = .ret r)
    (hx : d.params.args.map (·.arg) = [x] := by rfl) (hb : ∀ pm code doc v, bindArgs (docDef d.name d.params d.body d.scope pm code doc) ⟨[v], []⟩ = pure [(x, v)] := by intros; rfl)
    (hkind : (d.params.args.all fun y => d.scope.names.lookup y.arg == some .local || d.scope.names.lookup y.arg == some .cell) = true := by rfl)
    (hco : d.scope.isCoroutine = false := by rfl) (hgen : d.scope.isGenerator = false := by rfl) (hk : d.scope.kind = .function := by rfl) : CallP G (n + 1) (.ref a) [d1] r := by
  have hlen : d.params.args.length = 1 := by have := congrArg List.length hx; simpa using this
  refine CallP.def F (by rw [hlen]; rfl) (fun pm code doc vs hv => ?_) hkind (by rw [hx]; simp) (fun env l FE => ?_) hco hgen hk
  · obtain ⟨v, rfl⟩ := List.length_eq_one_iff.mp hv
    rw [hb, hx]; rfl
  · have hz : (d.params.args.map (·.arg)).zip ([d1].map Slot.val) = [(x, .val d1)] := by rw [hx]; rfl
    rw [hz]; exact h env l FE
end
end Mine
end
section
open PySem PySem.W PyProof.Rows PySem.Calls
set_option maxRecDepth 100000
namespace Mine
section
variable {G : Gr} {n : Nat}
/-- the method's look-up raises -/
def MethX (G : Gr) (n : Nat) (H : Around → Heap → Prop) (d : D) (name : Str) (X : String) (msg : Str) : Prop := ∀ ok A s v pl, H A s.heap → Room n A → G.base.StaysIn s.heap → FreshOk ok s.heap → Rep ok s.heap v d →
  wpAny G.M A (getMethod v name pl) (fun _ _ => False) (RX G X msg s) s
section
variable {env : Env} {σ : St} {fp : Addr → Prop} {H : Around → Heap → Prop} {X : String} {msg : Str}
theorem EvX.methM {o : Expr} {name : Str} {apos pos : Pos} {es : List Expr} {dv : D} (R : Rd G.base env fp H) (ho : Ev G n env σ o dv) (hm : MethX G n H dv name X msg)
    {pl : Sem Bool} (he : eval (.Call (.Attribute o name apos) es [] pos) env = (do
      let ov ← eval o env
      standAt apos.atName
      let (f, first) ← holding [ov] (getMethod ov name pl)
      callWith pos f first (backTo pos (starEach es env)) []) := by rfl) : EvX G n env H σ (.Call (.Attribute o name apos) es [] pos) X msg := fun ok A s q r k i =>
  MethodCall_ (wpAny_mono (ho ok A s _ r k i) (fun v s₁ p₁ => wpAny_mono (hm _ A s₁ v pl (R.ext p₁.1.ext q) r (p₁.1.ext.base k) (i.ext p₁.1.ext).freshO p₁.2) (fun _ _ z => z.elim) fun _ _ z => z.of_stp p₁.1) fun _ _ x => x) he
theorem EvX.meth {o : Expr} {name : Str} {apos pos : Pos} {es : List Expr} {f : Value} {dv : D} {ds : List D} (R : Rd G.base env fp H) (T : Tells G env H) (ho : Ev G n env σ o dv) (hm : MethD G n dv name f) (c : Callee G f) (ha : EvL G n env σ es ds) (hc : CallX G n f (dv :: ds) X msg)
    (hns : noStar es = true := by rfl) (hplain : (backTo pos (starEach es env)).any (·.1) = false := by rfl)
    {pl : Sem Bool} (he : eval (.Call (.Attribute o name apos) es [] pos) env = (do
      let ov ← eval o env
      standAt apos.atName
      let (f, first) ← holding [ov] (getMethod ov name pl)
      callWith pos f first (backTo pos (starEach es env)) []) := by rfl) : EvX G n env H σ (.Call (.Attribute o name apos) es [] pos) X msg := fun ok A s q r k i =>
  MethodCall_ (wpAny_mono (ho ok A s _ r k i) (fun v s₁ p₁ => wpAny_mono (hm _ A s₁ _ v pl r (p₁.1.ext.base k) (i.ext p₁.1.ext).freshO p₁.2) (fun ff s₂ p₂ => by
    obtain ⟨st₂, rfl⟩ := p₂
    have st' := p₁.1.trans st₂
    refine callWith_callee c hplain (wpAny_mono (ha ok A s₂ _ pos r (st'.ext.base k) (i.ext st'.ext)) (fun vs s₃ p₃ => ⟨p₃.1.ext.base (st'.ext.base k), ?_⟩) fun _ _ x => x) hns
    have st'' := st'.trans p₃.1
    obtain ⟨l, K⟩ := T ok A _ σ (R.ext st''.ext q) (i.ext st''.ext)
    exact wpAny_mono (hc _ A s₃ _ _ r (st''.ext.base k) (i.ext st''.ext).freshO K (.cons ((p₁.2.stp st₂).stp p₃.1) p₃.2)) (fun _ _ z => z.elim) fun _ _ z => z.of_stp st'') fun _ _ x => x) fun _ _ x => x) he
end
end
end Mine
end
section
open PySem PySem.W PyProof.Rows PySem.Calls
set_option maxRecDepth 100000
namespace Mine
section
variable {G : Gr} {n : Nat} {env : Env} {σ : St} {l : List Env} {X : String} {msg : Str}
/-- the handlers of a try take an exception: they give d back -/
def Hand (G : Gr) (n : Nat) (env : Env) (l : List Env) (σ : St) (X : String) (msg : Str) (hs : List ExceptHandler) (d : D) : Prop := ∀ ok A s s' e E, HS G.base env l A s.heap → Room n A → G.base.StaysIn s.heap → Inv G.base ok env σ s.heap → Exc G.base X msg .fly s s' e →
  wpAny G.M A (handleBy (.ref e) env hs) (fun f s'' => ∃ v, f = .ret v ∧ Rep ok s''.heap v d ∧ Mv G.base (FrW env) s s'' ∧ Frame env s''.heap) E s'
/-- what an exception says, where it is handled -/
def Says (h : Heap) (e : Addr) (X : String) (msg : Str) : Prop := ∃ t tk, h.ExcAt e X (.ref t) ∧ h.TupAt t [.str msg tk]
theorem Exc.says {base : Heap} {s s' : Shared} {e : Addr} {way : Way} (x : Exc base X msg way s s' e) : Says s'.heap e X msg := by
  obtain ⟨st, new, t, tk, it, tup⟩ := x
  refine ⟨t, tk, ?_, tup⟩
  cases way with
  | new => obtain ⟨oe, vs, he, hc, hd, h0, _⟩ := it; exact ⟨oe, vs, he, hc, hd, h0⟩
  | fly => obtain ⟨oe, vs, T, oT, ts, he, hc, hd, h0, _⟩ := it; exact ⟨oe, vs, he, hc, hd, h0⟩
  | «at» L => obtain ⟨oe, vs, T, oT, ts, he, hc, hd, h0, _⟩ := it; exact ⟨oe, vs, he, hc, hd, h0⟩
/-- an expression of a handler -/
def EvH (G : Gr) (env : Env) (nm : Str) (X : String) (msg : Str) (e2 : Expr) (d : D) : Prop := ∀ A s E e, A.units + 500 < cLine → Frame env s.heap → G.base.StaysIn s.heap → Holds env s.heap nm (.ref e) → Says s.heap e X msg →
  wpAny G.M A (eval e2 env) (fun v s' => (∀ b o, s.heap.get? b = some o → s'.heap.get? b = some o) ∧ s'.os = s.os ∧ s'.gens = s.gens ∧ ∀ ok, FreshOk ok s.heap → Rep ok s'.heap v d) E s
theorem Hand.take {T : String} {x nm : Str} {np pos p2 : Pos} {e2 : Expr} {rest : List ExceptHandler} {d : D} (hx : env.kindOf x = some .globalImplicit) (hg : G.mg x = none) (hv : bootBuiltins x = some (.type T)) (hnm : env.kindOf nm = some .local)
    (hexc : isSubtype (.type T) (.type "BaseException") = pure true) (hnt : isSubtype (.type ((Manifest.find? T).elim "type" fun x => x.metatype)) (.type "tuple") = pure false) (hsub : isSubtype (.type X) (.type T) = pure true) (h : EvH G env nm X msg e2 d)
    (hn : x ≠ "__name__" := by decide) (hd : (x == ("__debug__" : Str)) = false := by decide) : Hand G n env l σ X msg (.ExceptHandler (some (.Name x np)) (some nm) [.Return (some e2) p2] pos :: rest) d := fun ok A s s' e E hS r k i ex => by
  have k' := ex.stp.ext.base k
  have F' := i.frame.ext ex.stp.ext
  refine wpAny_handleBy_builtin_as (X := X) (T := T) (b := true) hexc hnt hsub ?_
  refine Name_function_global F'.kind hx (loadGlobal_builtin (by rw [F'.glob]; exact G.g.keeps k') hg (by rw [F'.blt]; exact G.b.keeps k') ((G.bb x hn).trans hv) ⟨rfl, ex.typeIs, ?_⟩) hd
  rw [if_pos rfl]
  refine ex.land (by simp) fun s₁ ex₁ => ?_
  have st1 := ex₁.stp
  have F1 := i.frame.ext st1.ext
  have i1 := i.ext st1.ext
  refine wpAny_store (base := G.base) F1 (.inl hnm) fun s₂ hv₂ ho₂ F₂ m₂ => ?_
  have m02 : Mv G.base (FrW env) s s₂ := (st1.mv (W := FrW env)).trans m₂ fun _ w => .inl w
  have k2 : G.base.StaysIn s₂.heap := m02.base k fun b w => i.off b (.inl w)
  have says : Says s₂.heap e X msg := by
    obtain ⟨t, tk, ⟨o, vs, q1, q2, q3, q4⟩, ⟨ot, nt, w1, w2, w3⟩⟩ := ex₁.says
    have nfe : ¬ FrW env e := fun w => by
      rcases w with w | ⟨y, w⟩
      · obtain ⟨m, o2, es, ep, z, zd, _⟩ := F1.ns; rw [← w, q1] at z; cases z; rw [q3] at zd; cases zd
      · obtain ⟨u, o2, z, zd⟩ := F1.cells y _ w; rw [q1] at z; cases z; rw [q3] at zd; cases zd
    have nft : ¬ FrW env t := node_not_frame F1 (.tup ⟨ot, w1, w2, nt, w3⟩)
    obtain ⟨o', z1, z2, z3, _⟩ := m₂.ext e o nfe q1
    obtain ⟨ot', y1, y2, y3, _⟩ := m₂.ext t ot nft w1
    exact ⟨t, tk, ⟨o', vs, z1, z2.trans q2, z3.trans q3, q4⟩, ⟨ot', nt, y1, y2.trans w2, y3.trans w3⟩⟩
  refine wpAny_execs_cons (wpAny_Return_some (wpAny_mono (h (A.mark (some (.ref e))) s₂ (fun _ _ => False) e (by have := r.units; show A.units + 500 < cLine; omega) F₂ k2 hv₂ says) (fun v s₃ z => ?_) fun _ _ x => x.elim))
  obtain ⟨kp, os3, g3, rep⟩ := z
  have st3 : Stp G.base s₂ s₃ := ⟨.of_stays kp, os3, by rw [g3]; exact .refl⟩
  have F3 := F₂.ext st3.ext
  obtain ⟨m3, hns3⟩ := F3.ns
  refine wpAny_nameGoes hnm hns3 (by rw [F3.kind]; rfl) fun h' m' hns' hs' => ?_
  have m4 : Mv G.base (FrW env) s₃ { s₃ with heap := h', toks := s₃.toks + 1 } := by
    refine ⟨fun b o w q => ⟨o, (hs'.2 b fun z => w (.inl z)).trans q, rfl, rfl, fun _ => rfl⟩, fun b q => ?_, rfl, .refl⟩
    by_cases z : b = env.locals
    · obtain ⟨o, _, _, q', _⟩ := hns'
      have q2 : h'.get? b = none := q
      rw [z, q'] at q2; cases q2
    · rw [← hs'.2 b z]; exact q
  refine ⟨v, rfl, ?_, (m02.trans (st3.mv (W := FrW env)) fun _ w => .inl w).trans m4 fun _ w => .inl w, ?_⟩
  · have := rep ok fun b q => i.fresh b (m02.dom b q)
    exact this.extBut m4.ext (fun b _ nd => node_not_frame F3 nd) fun _ q _ => q
  · exact ⟨F3.kind, ⟨m', hns'⟩, fun y c lc => let ⟨u, q⟩ := F3.cells y c lc; ⟨u, q.sameBut hs' (F3.away y c lc)⟩, F3.apart, F3.away, F3.glob, F3.blt⟩
end
end Mine
end
section
open PySem PySem.W PyProof.Rows PySem.Calls
set_option maxRecDepth 100000
namespace Mine
section
variable {G : Gr} {n : Nat} {env : Env} {σ : St} {fp : Addr → Prop} {H : Around → Heap → Prop}
theorem ExP.forS {target iter : Expr} {body rest : List Stmt} {pos : Pos} {ds : List D} {f : D → St → St} {Q : Fl → St → Prop} (R : Rd G.base env fp H) (σ₀ : St) (h0 : Sub σ₀ σ) (nd : (σ₀.map (·.1)).Nodup)
    (hi : EvI G n env σ₀ iter target ds) (ht : ∀ d ∈ ds, AssD G n env target d (f d))
    (turn : ∀ (i : Nat) (d : D), ds[i]? = some d → ExP G n env H (f d σ₀) body fun fl σ₂ => match fl with
      | .next | .cont => Sub σ₀ σ₂
      | .brk => ExP G n env H σ₂ rest Q
      | .ret r => Q (.ret r) σ₂)
    (done : ExP G n env H σ₀ rest Q) (hs : ∀ x, foldedSetIterable iter env x = pure x := by intro _; rfl) : ExP G n env H σ (.For target iter body [] pos :: rest) Q := by
  refine ExP.cons R (ExP1.only h0 ?_ nd)
  refine ExP1.for (f := f) R hi ht (fun i σ₁ => σ₁ = σ₀) rfl (fun i d σ₁ hd hJ => ?_) (fun σ₁ hJ => by subst hJ; exact done) hs
  subst hJ
  refine (turn i d hd).post fun fl σ' h => ?_
  cases fl with
  | next => exact .inr ⟨_, h, nd, rfl⟩
  | cont => exact .inr ⟨_, h, nd, rfl⟩
  | brk => exact .inl h
  | ret r => exact .inl h
end
end Mine
end
section
open PySem PySem.W PyProof.Rows PySem.Calls
set_option maxRecDepth 100000
namespace Mine
/-- a class whose texts are told by BaseException.__str__ -/
structure ExcS (X id : String) : Prop where
  str : PySem.Slot X "__str__" id
  entry : entryFor table id = some Builtin.«BaseException.__str__»
  args : ∀ a : Value, argsOk id ⟨[a], []⟩
theorem excS_TypeError : ExcS "TypeError" "BaseException.__str__" := ⟨PySem.F.excStr_TypeError.str, PySem.F.entry_bexc_str, PySem.F.args_bexc_str⟩
section
variable {prog : Program} {w : World} {A : Around} {E : Value → Shared → Prop} {s : Shared} {e t0 : Addr} {X id : String}
theorem call_excS (FX : ExcS X id) {m : Str} {tk : Tok} {Q : Value → Shared → Prop} (x : s.heap.ExcAt e X (.ref t0)) (ht : s.heap.TupAt t0 [.str m tk]) (hq : Q (.str m tk) s) :
    wpAny (model prog w) A (call (.builtin id) [.ref e]) Q E s :=
  wpAny_call_entry FX.str x.typeIs FX.entry (bexcStr_entry_one x ht ⟨_, rfl, hq⟩) (FX.args _)
theorem strOf_excS (FX : ExcS X id) (hu : A.units < cLine) {m : Str} {tk : Tok} {Q : Value → Shared → Prop} (x : s.heap.ExcAt e X (.ref t0)) (ht : s.heap.TupAt t0 [.str m tk]) (hq : Q (.str m tk) s) :
    wpAny (model prog w) A (Builtin.Str.strOf (.ref e)) Q E s := by
  unfold Builtin.Str.strOf
  repeat (first | with_reducible refine wpAny_cRoomFor hu ?_ | with_reducible refine wpAny_callSpecial?_slot x.typeIs FX.str (call_excS FX x ht ?_) | wp_step)
  exact hq
theorem str_of_excS (FX : ExcS X id) (hu : A.units + 2 < cLine) {m : Str} {tk : Tok} {Q : Value → Shared → Prop} (x : s.heap.ExcAt e X (.ref t0)) (ht : s.heap.TupAt t0 [.str m tk]) (h : Q (.str m tk) s) :
    wpAny (model prog w) A (call (.type "str") [.ref e]) Q E s :=
  callType_new PySem.F.called_str (by decide) (PySem.F.typeCall_str_1 _) (PySem.F.newCall_str_1 _) (fun obj => PySem.F.args_object_init_2 obj _) PySem.F.entry_str_new
    (meets_str_new (S := fun A' R s' => A'.units + 1 < cLine ∧ s'.heap.ExcAt e X (.ref t0) ∧ s'.heap.TupAt t0 [.str m tk] ∧ R (.ok (.ret (.str m tk))) s')
      fun _ _ A' _ _ hq => strOf_excS (A := A'.in1) FX hq.1 hq.2.1 hq.2.2.1 hq.2.2.2)
    ⟨(show A.units + 1 + 1 < cLine from hu), x, ht, typeIs_str _ _ _, h⟩
end
section
variable {G : Gr} {n : Nat} {env : Env} {nm : Str} {X : String} {msg : Str}
theorem EvH.str {x : Str} {k : Nat} {p : Pos} : EvH G env nm X msg (.Constant (.str x) k p) (.str x) := fun _ _ _ _ _ _ _ _ _ => Constant_str ⟨fun _ _ e => e, rfl, rfl, fun _ _ => .str _ _⟩
theorem EvH.strOf {N : String} {p p2 pos : Pos} (FX : ExcS X N) (hx : env.kindOf "str" = some .globalImplicit) (hg : G.mg "str" = none) (hv : bootBuiltins "str" = some (.type "str")) (hk : env.scope.kind = .function) (hd : (nm == ("__debug__" : Str)) = false := by decide) (hc : (nm == ("__classdict__" : Str)) = false := by decide) : EvH G env nm X msg (.Call (.Name "str" p) [.Name nm p2] [] pos) (.str msg) := fun A s E e hu F k hh ⟨t, tk, ex, tup⟩ => by
  refine Call_ (Name_function_global F.kind hx (loadGlobal_builtin (by rw [F.glob]; exact G.g.keeps k) hg (by rw [F.blt]; exact G.b.keeps k) ((G.bb "str" (by decide)).trans hv) ?_) (by decide))
  refine callWith_callee (G := G) (.type _) rfl ?_ rfl
  refine args_cons (wpAny_holds hk hh ?_ hd hc) rfl
  refine args_nil ?_
  refine ⟨k, ?_⟩
  obtain ⟨pr, w, hM⟩ : ∃ pr w, G.M = model pr w := ⟨_, _, rfl⟩
  rw [hM]
  exact str_of_excS FX (by omega) ex tup ⟨fun _ _ e => e, rfl, rfl, fun _ _ => .str _ _⟩
end
end Mine
end
section
open PySem PySem.W PyProof.Rows PySem.Calls
set_option maxRecDepth 100000
namespace Mine
/-- more of the heap as ground -/
def Gr.grow (G : Gr) (b : Heap) (k : G.base.StaysIn b) : Gr := { prog := G.prog, w := G.w, base := b, mg := G.mg, mb := G.mb, g := G.g.keeps k, b := G.b.keeps k, bb := G.bb, nolimit := let ⟨m, h, e⟩ := G.nolimit; ⟨m, h.keeps k, e⟩ }
/-- what a frame and the stack below may write -/
def hideL (env : Env) (σ : St) (l : List Env) : List Addr := env.locals :: (env.cells.filterMap (fun p => env.cells.lookup p.1) ++ (owned σ ++ l.filterMap (·.frame)))
theorem hideL_wr {env : Env} {σ : St} {l : List Env} {a : Addr} (w : Wr env σ a) : a ∈ hideL env σ l := by
  unfold hideL
  rcases w with (w | ⟨x, w⟩) | w
  · simp [w]
  · have := mem_of_lookup w
    simp only [List.mem_cons, List.mem_append, List.mem_filterMap]
    exact .inr (.inl ⟨_, this, w⟩)
  · simp [w]
theorem hideL_stk {env : Env} {σ : St} {l : List Env} {e : Env} {L : Addr} (he : e ∈ l) (hf : e.frame = some L) : L ∈ hideL env σ l := by
  unfold hideL
  simp only [List.mem_cons, List.mem_append, List.mem_filterMap]
  exact .inr (.inr (.inr ⟨e, he, hf⟩))
section
variable {G : Gr} {n : Nat} {env : Env} {σ : St} {l : List Env}
theorem FnAt.grow {b : Heap} {k : G.base.StaysIn b} {d : DefRec} {a : Addr} (F : FnAt G d a) : FnAt (G.grow b k) d a := by
  obtain ⟨o, pm, code, doc, h1, h2, h3⟩ := F.obj
  exact ⟨F.name, o, pm, code, doc, k _ _ h1, h2, h3.keeps k⟩
theorem ExtBut.less {base b h h' : Heap} {W : Addr → Prop} (k : base.StaysIn b) (x : ExtBut b W h h') : ExtBut base W h h' := fun a o w e => by
  obtain ⟨o', e', c, d, q⟩ := x a o w e
  refine ⟨o', e', c, d, fun z => q (z.imp (fun z => ?_) id)⟩
  obtain ⟨p, hp⟩ := Option.isSome_iff_exists.mp z
  rw [k _ _ hp]; rfl
theorem off_less {base b : Heap} {a : Addr} (k : base.StaysIn b) (h : b.get? a = none) : base.get? a = none := by
  cases q : base.get? a with
  | none => rfl
  | some o => rw [k _ _ q] at h; cases h
theorem Inv.turn {base b h : Heap} {ok : Addr → Prop} (i : Inv base ok env σ h) (o : ∀ a, Wr env σ a → b.get? a = none) : Inv b ok env σ h := ⟨i.frame, o, i.fresh, i.vals, i.owns, i.there, i.once⟩
theorem After.less {b : Heap} {k : G.base.StaysIn b} {ok : Addr → Prop} {s s' : Shared} {Q : Fl → St → Prop} {f : Flow} (a : After (G.grow b k) env σ ok s Q f s') : After G env σ ok s Q f s' := by
  obtain ⟨fl, σ', q, fi, i, m, kk, o⟩ := a
  exact ⟨fl, σ', q, fi, i.turn fun a w => off_less k (i.off a w), ⟨m.ext.less k, m.dom, m.os, m.gens⟩, fun a o e => kk a o (k a o e), o⟩
end
end Mine
end
section
open PySem PySem.W PyProof.Rows PySem.Calls
set_option maxRecDepth 100000
namespace Mine
section
variable {G : Gr} {n : Nat} {env : Env} {σ : St}
theorem CallX.fn1 {d : DefRec} {a : Addr} {d1 : D} {X : String} {msg : Str} {x : Str} (F : FnAt G d a) (h : ∀ env l, FEnv env d.scope → ExX G n env (HS G.base env l) [(x, .val d1)] d.body X msg)
    (hx : d.params.args.map (·.arg) = [x] := by rfl) (hb : ∀ pm code doc v, bindArgs (docDef d.name d.params d.body d.scope pm code doc) ⟨[v], []⟩ = pure [(x, v)] := by intros; rfl)
    (hkind : (d.params.args.all fun y => d.scope.names.lookup y.arg == some .local || d.scope.names.lookup y.arg == some .cell) = true := by rfl)
    (hco : d.scope.isCoroutine = false := by rfl) (hgen : d.scope.isGenerator = false := by rfl) (hk : d.scope.kind = .function := by rfl) : CallX G (n + 1) (.ref a) [d1] X msg := by
  have hlen : d.params.args.length = 1 := by have := congrArg List.length hx; simpa using this
  refine CallX.def F (by rw [hlen]; rfl) (fun pm code doc vs hv => ?_) hkind (by rw [hx]; simp) (fun env l FE => ?_) hco hgen hk
  · obtain ⟨v, rfl⟩ := List.length_eq_one_iff.mp hv
    rw [hb, hx]; rfl
  · have hz : (d.params.args.map (·.arg)).zip ([d1].map Slot.val) = [(x, .val d1)] := by rw [hx]; rfl
    rw [hz]; exact h env l FE
theorem sub_te_be : isSubtype (.type "TypeError") (.type "BaseException") = pure true := by rw [isSubtype_type]; kernel_rfl
theorem meta_te : isSubtype (.type ((Manifest.find? "TypeError").elim "type" fun x => x.metatype)) (.type "tuple") = pure false := by
  rw [show ((Manifest.find? "TypeError").elim "type" fun x => x.metatype) = "type" from by decide +kernel, isSubtype_type]; kernel_rfl
end
end Mine
end
section
open PySem PySem.W PyProof.Rows PySem.Calls
set_option maxRecDepth 100000
namespace Mine
section
variable {G : Gr} {n : Nat} {env : Env} {σ : St}
theorem RepAll.getV {ok : Addr → Prop} {h : Heap} : ∀ {vs : List Value} {ds : List D} {i : Nat} {v : Value}, RepAll ok h vs ds → vs[i]? = some v → ∃ d, ds[i]? = some d ∧ Rep ok h v d
  | _, _, i, v, .nil, e => by simp at e
  | _, _, 0, v, .cons r _, e => by simp at e; subst e; exact ⟨_, rfl, r⟩
  | _, _, i + 1, v, .cons _ rs, e => by simp at e; simpa using rs.getV e
end
end Mine
end
section
open PySem PySem.W PyProof.Rows PySem.Calls
set_option maxRecDepth 100000
namespace Mine
section
variable {G : Gr} {n : Nat} {env : Env} {σ : St} {H : Around → Heap → Prop}
theorem ints_of {ok : Addr → Prop} {h : Heap} : ∀ {vs : List Value} {ns : List Int}, RepAll ok h vs (ns.map .int) → IntsAre vs ns
  | _, [], r => by cases r; exact .nil
  | _, n :: ns, r => by
    cases r with | cons a r => cases a with | int i t => exact .cons _ _ (ints_of r)
/-- bytes(list of small ints) -/
theorem CallD.bytes {ns : List Int} (hr : ∀ n ∈ ns, 0 ≤ n ∧ n < 256) (hz : ns.length ≤ sizeLine) : CallD G n (.type "bytes") [.list (ns.map .int)] (.bytes (byteArr ns)) := fun ok A s E vs r k f rv => by
  cases rv with | cons a rs =>
  cases rs
  cases a with | list o l rs =>
  refine call_bytes_ints l (ints_of rs) hr (by have := rs.length; simp only [List.length_map] at this; omega) r.handled fun h' t k hk => ⟨.heap hk, .bytes _ _⟩
end
end Mine
end
section
open PySem PySem.W PyProof.Rows PySem.Calls
set_option maxRecDepth 100000
namespace Mine
section
variable {G : Gr} {n : Nat}
/-- text + int -/
theorem BinX.str_int {x : Str} {i : Int} : BinX G n .Add (.str x) (.int i) "TypeError" "can only concatenate str (not \"int\") to str" := fun ok A s va vb r k f ra rb => by
  cases ra with | str _ t =>
  cases rb with | int _ u =>
  unfold binaryOp
  refine wpAny_holding ?_
  refine wpAny_bind (wpAny_binaryOp1_right_declines (T := "str") (U := "int") (nm := "add") (by decide) (typeIs_str s x t) (typeIs_int s i u) PySem.noFill_str_add F.fills_int_add F.slot_int_radd
    (call_gives F.slot_int_radd (typeIs_int s i u) F.entry_int_radd (F.args_int_radd_2 _ _) (AutoIntG4.int___radd___int_str_0 i u x t) ⟨rfl, ?_⟩))
  refine wpAny_bind (wpAny_typeOf (typeIs_str s x t) ?_)
  refine wpAny_bind (wpAny_of_eq PySem.seq_str_add ?_)
  refine wpAny_bind (wpAny_rule ?_)
  refine wpAny_call_entry F.slot_str_add (typeIs_str s x t) F.entry_str_add ?_ (F.args_str_add_2 _ _)
  unfold Builtin.«str.__add__»
  refine wpAny_bind (wpAny_of_eq (a := (.str x t, x, [.int i u])) (by rfl) ?_)
  refine wpAny_bind (wpAny_of_eq (a := none) (by rfl) ?_)
  dsimp only
  refine wpAny_bind (wpAny_rule ?_)
  refine wpAny_bind (wpAny_typeNameOf' (T := "int") (typeIs_int s i u) (by decide) ?_)
  exact raise_made r.handled fun s' e x => ⟨e, .new, rfl, .inl rfl, x⟩
end
end Mine
end
section
open PySem PySem.W PyProof.Rows PySem.Calls
set_option maxRecDepth 100000
namespace Mine
section
variable {G : Gr} {n : Nat}
theorem wpAny_pos {α : Type} {M : Model} {A : Around} {E : Value → Shared → Prop} {s : Shared} {c : Prop} [Decidable c] {t e : Sem α} {Q : α → Shared → Prop} (h : c) (h1 : wpAny M A t Q E s) : wpAny M A (if c then t else e) Q E s := by
  rw [if_pos h]; exact h1
/-- join of a list whose first item is no text -/
theorem join_raises {T : String} {msg : String} {x : Str} {t : Tok} {a b : Addr} {vs : List Value} {o : Obj} {A : Around} {s : Shared} (hh : A.handled = none) (l : s.heap.IsList a ((.ref b) :: vs).toArray) (ho : s.heap.get? b = some o) (hc : o.cls = .type T) (hd : ∀ p, o.data ≠ .prim p)
    (hT : (Value.type T == Value.type "builtin_function_or_method") = false) (hm : s!"sequence item {0}: expected str instance, {shownName T} found" = msg) (hz : (msg : Str).length ≤ sizeLine) : wpAny G.M A (call (.builtin "str.join") [.str x t, .ref a]) (fun _ _ => False) (RX G "TypeError" msg s) s := by
  obtain ⟨ol, hl, hlc, m, hld⟩ := l
  refine wpAny_call_entry F.slot_str_join (typeIs_str s x t) F.entry_str_join ?_ (F.args_str_join_2 _ _)
  unfold Builtin.«str.join»
  refine wpAny_bind (wpAny_of_eq (a := (.str x t, x, .ref a)) (by rfl) ?_)
  refine wpAny_bind (wpAny_typeOf (T := "list") ⟨ol, hl, hlc⟩ ?_)
  refine wpAny_pos rfl ?_
  refine wpAny_bind ?_
  unfold seqItems?
  refine wpAny_bind (wpAny_load hl ?_)
  rw [hld]
  refine wpAny_pure ?_
  refine wpAny_bind (wpAny_pure ?_)
  dsimp only
  have go : ∀ (P : Array Str → Sem PySem.Fin), wpAny (model G.prog G.w) A.in1 (do
      let r ← forIn (((Value.ref b) :: vs).zipIdx) (#[] : Array Str) fun x acc => match x with
        | (x, i) => do
          match ← asStr? x with
          | some s => pure (ForInStep.yield (acc.push s))
          | none => do
            rule "str.join.non-str"
            let nm ← PySem.typeNameOf x
            raiseErrorMade "TypeError" (toString "sequence item " ++ toString i ++ toString ": expected str instance, " ++ toString nm ++ toString " found")
            pure (ForInStep.yield acc)
      P r) (fun fin s' => ∃ v, fin = Fin.done (Flow.ret v) ∧ False) (RX G "TypeError" msg s) s := by
    intro P
    rw [List.zipIdx_cons, List.forIn_cons]
    refine wpAny_bind (wpAny_bind ?_)
    refine wpAny_bind ?_
    unfold asStr?
    refine wpAny_bind (wpAny_load ho ?_)
    have hn : ∀ (f : Str → Tok → Sem (Option Str)) (Q : Option Str → Shared → Prop), Q none s → wpAny (model G.prog G.w) A.in1 (match o.data with | .prim (.str s u) => f s u | _ => pure none) Q (RX G "TypeError" msg s) s := fun f Q hQ => by
      split
      · rename_i e; exact absurd e (hd _)
      · exact wpAny_pure hQ
    refine hn _ _ ?_
    refine wpAny_bind (wpAny_rule (wpAny_bind (wpAny_typeNameOf' (T := T) ⟨o, ho, hc⟩ hT ?_)))
    refine wpAny_bind ?_
    rw [hm]
    exact raise_made hh (fun s' e x => ⟨e, .new, rfl, .inl rfl, x⟩) hz
  cases vs with
  | nil => exact go _
  | cons v vs => exact go _
end
end Mine
end
section
open PySem PySem.W PyProof.Rows PySem.Calls
set_option maxRecDepth 100000
namespace Mine
namespace Z
theorem wpAny_neg {α : Type} {M : Model} {A : Around} {E : Value → Shared → Prop} {s : Shared} {c : Prop} [Decidable c] {t e : Sem α} {Q : α → Shared → Prop} (h : ¬ c) (h1 : wpAny M A e Q E s) : wpAny M A (if c then t else e) Q E s := by
  rw [if_neg h]; exact h1
section
variable {prog : Program} {w : World} {A : Around} {E : Value → Shared → Prop} {s : Shared} {P : End → Shared → Prop}
theorem made_no {a : Addr} {g : Nat} {Q : Bool → Shared → Prop} (hg : s.heap.IsGen a g) (h : Q false s) : wpAny (model prog w) A (Builtin.Generator.madeByALambda (.ref a)) Q E s := by
  obtain ⟨o, nm, qn, e, c, d, sl⟩ := hg
  unfold Builtin.Generator.madeByALambda
  refine wpAny_bind (wpAny_load e ?_)
  rw [c, d]
  exact wpAny_pure (by simpa using h)
/-- next of a generator: a value, its end, or a raise -/
theorem next_gen {a : Addr} {g : Nat} {gs : GenState} {Q : Option Value → Shared → Prop} (hh : A.handled = none) (hl : s.heap.NoLimit) (hroom : A.depth < recursionLimit) (hg : s.heap.IsGen a g) (hgs : s.gens[g]? = some gs)
    (hgo : Goes1 (model prog w) A.in1 P gs (s.setGen g .running)) (hq : ∀ e s', P e s' → e.quiet = true)
    (hP : ∀ e s₁, P e s₁ → (∃ v gd l k c p fs, e = .susp v gd l k c p fs ∧ Q (some v) (s₁.setGen g e.genState)) ∨
      (e = .ret (.ok (.ret .none)) ∧ ∀ h', (∀ b o, s₁.heap.get? b = some o → h'.get? b = some o) → Q none { s₁.setGen g .finished with heap := h' }) ∨
      (∃ x X, e = .ret (.error (.ref x)) ∧ s₁.heap.IsGen a g ∧ s₁.TypeIs (.ref x) X ∧ isSubtype (.type X) (.type "StopIteration") = pure false ∧ E (.ref x) (s₁.setGen g .finished))) :
    wpAny (model prog w) A (pyNext (.ref a)) Q E s := by
  unfold pyNext
  refine wpAny_bind (wpAny_attempt (wpAny_callSpecial?_slot (name := Str.ofString "__next__") hg.typeIs slot_gen_next (wpAny_call_entry slot_gen_next hg.typeIs entry_gen_next ?_ (args_gen_next _))))
  show wpAny _ A.in1 (Builtin.Generator.genWake (.ref a) (.send .none)) _ _ s
  unfold Builtin.Generator.genWake
  refine wpAny_bind (wpAny_holding (wpAny_genNumber hg (wpAny_bind (wpAny_genState hgs ?_))))
  cases gs with
  | running => exact hgo.elim
  | finished => exact hgo.elim
  | _ =>
    refine wpAny_bind (wpAny_roomToWake hl hroom ?_)
    show wpAny _ A.in1 (.resume g (.send .none) [] _) _ _ s
    refine wake1 hgs hgo hq fun e s₁ he => ?_
    rcases hP e s₁ he with ⟨v, gd, l, k, c, p, fs, rfl, hv⟩ | ⟨rfl, hn⟩ | ⟨x, X, rfl, hgx, hty, hsub, hE⟩
    · exact wpAny_pure ⟨v, rfl, wpAny_pure hv⟩
    · show wpAny _ A.in1 (newExc (.type "StopIteration") [] >>= _) _ _ _
      refine wpAny_bind ?_
      simp only [newExc, newTuple]
      refine wpAny_bind (wpAny_newObj_type ?_ (by size_fits))
      refine wpAny_bind (m := firstArgMember _ _) (wpAny_of_eq (a := Value.none) (by first | rfl | (simp only [firstArgMember]; rfl)) ?_)
      refine wpAny_newObj_type ?_ (by size_fits)
      simp only [raiseNew]
      refine wpAny_bind (wpAny_bind (wpAny_handled ?_))
      rw [show A.in1.handled = none from hh]
      refine wpAny_throw ?_
      refine wpAny_bind (wpAny_isInstance (T := "StopIteration") (b := true) ⟨_, Heap.get?_push_size _ rfl, rfl⟩ isSubtype_stop ?_)
      exact wpAny_pure (hn _ fun b o hb => Heap.get?_push_of_some _ (Heap.get?_push_of_some _ hb))
    · have hty' : (s₁.setGen g .finished).TypeIs (.ref x) X := hty
      show wpAny _ A.in1 (Builtin.Generator.genLeft (.ref a) (.ref x)) _ _ (s₁.setGen g .finished)
      unfold Builtin.Generator.genLeft
      refine wpAny_bind (made_no hgx ?_)
      refine wpAny_bind (wpAny_isInstance (b := false) hty' hsub ?_)
      dsimp only [Bool.and_false]
      refine wpAny_neg (by decide) ?_
      unfold Builtin.Generator.genEscaped
      refine wpAny_bind (wpAny_isInstance (b := false) hty' hsub ?_)
      refine wpAny_pos (by decide) ?_
      refine wpAny_throw ?_
      refine wpAny_bind (wpAny_isInstance (b := false) hty' hsub ?_)
      exact wpAny_neg (by decide) (wpAny_throw hE)
end
end Z
end Mine
end
section
open PySem PySem.W PyProof.Rows PySem.Calls
set_option maxRecDepth 100000
namespace Mine
namespace Z
/-- how a generator ends: by itself, or by a raise -/
abbrev Rz := Option (String × Str)
def zEnd (G : Gr) (g : Nat) (rz : Rz) (s₁ : Shared) (F : Addr → Prop) (e : End) (s' : Shared) : Prop := match rz with
  | none => MvI G.base F (· = g) (s₁.setGen g .running) s' ∧ (s'.gens[g]?).isSome = true ∧ e = .ret (.ok (.ret .none))
  | some (X, msg) => ∃ s₂ x, e = .ret (.error (.ref x)) ∧ MvI G.base F (· = g) (s₁.setGen g .running) s₂ ∧ Exc G.base X msg .fly s₂ s' x
theorem zEnd.quiet {G : Gr} {g : Nat} {rz : Rz} {s₁ s' : Shared} {F : Addr → Prop} {e : End} (h : zEnd G g rz s₁ F e s') : e.quiet = true := by
  unfold zEnd at h
  split at h
  · obtain ⟨_, _, rfl⟩ := h; rfl
  · obtain ⟨_, _, rfl, _⟩ := h; rfl
/-- the frames of the stack are none of these -/
def Apt (l : List Env) (F : Addr → Prop) : Prop := ∀ e ∈ l, ∀ L, e.frame = some L → ¬ F L
/-- a generator's stop: a value, or the end -/
def GStop (G : Gr) (okc C : Addr → Prop) (g : Nat) (rz : Rz) (s₁ : Shared) (F : Addr → Prop) (d : Option D) (go : GenState → (Addr → Prop) → Shared → Prop) (e : End) (s' : Shared) : Prop := match d with
    | none => zEnd G g rz s₁ F e s'
    | some d => MvI G.base F (· = g) (s₁.setGen g .running) s' ∧ (s'.gens[g]?).isSome = true ∧ e.quiet = true ∧ (∃ v gd l k c p fs, e = .susp v gd l k c p fs ∧ Rep (fun b => okc b ∨ s₁.heap.get? b = none ∨ F b) s'.heap v d) ∧
      ∃ F', (∀ a, C a → F' a) ∧ (∀ a, F' a → F a ∨ s₁.heap.get? a = none) ∧ (∀ a, F' a → ¬ IsNode s'.heap a ∧ (s'.heap.get? a).isSome = true) ∧ go e.genState F' s'
theorem GStop.quiet {G : Gr} {okc C : Addr → Prop} {g : Nat} {rz : Rz} {s₁ s' : Shared} {F : Addr → Prop} {d : Option D} {go : GenState → (Addr → Prop) → Shared → Prop} {e : End} (h : GStop G okc C g rz s₁ F d go e s') : e.quiet = true := by
  cases d with
  | none => exact zEnd.quiet h
  | some d => exact h.2.2.1
def GenGo (G : Gr) (A : Around) (l : List Env) (okc C : Addr → Prop) (g : Nat) (rz : Rz) : List D → GenState → (Addr → Prop) → Shared → Prop
  | [], gs, F, s => ∀ s₁, Cpt G.base okc F s.heap s₁.heap → G.base.StaysIn s₁.heap → (s₁.gens[g]?).isSome = true → Stk G.base s₁.heap A l → Apt l F → Goes1 G.M A (GStop G okc C g rz s₁ F none fun _ _ _ => False) gs (s₁.setGen g .running)
  | d :: r, gs, F, s => ∀ s₁, Cpt G.base okc F s.heap s₁.heap → G.base.StaysIn s₁.heap → (s₁.gens[g]?).isSome = true → Stk G.base s₁.heap A l → Apt l F → Goes1 G.M A (GStop G okc C g rz s₁ F (some d) (GenGo G A l okc C g rz r)) gs (s₁.setGen g .running)
def GPost (G : Gr) (A : Around) (l : List Env) (okc C : Addr → Prop) (g : Nat) (rz : Rz) (ds : List D) (s₁ : Shared) (F : Addr → Prop) : End → Shared → Prop := match ds with
  | [] => GStop G okc C g rz s₁ F none fun _ _ _ => False
  | d :: r => GStop G okc C g rz s₁ F (some d) (GenGo G A l okc C g rz r)
theorem genGo_iff {G : Gr} {A : Around} {l : List Env} {okc C : Addr → Prop} {g : Nat} {rz : Rz} {ds : List D} {gs : GenState} {F : Addr → Prop} {s : Shared} :
    GenGo G A l okc C g rz ds gs F s ↔ ∀ s₁, Cpt G.base okc F s.heap s₁.heap → G.base.StaysIn s₁.heap → (s₁.gens[g]?).isSome = true → Stk G.base s₁.heap A l → Apt l F → Goes1 G.M A (GPost G A l okc C g rz ds s₁ F) gs (s₁.setGen g .running) := by
  cases ds <;> exact Iff.rfl
theorem GenGo.cpt {G : Gr} {A : Around} {l : List Env} {okc C : Addr → Prop} {g : Nat} {rz : Rz} {ds : List D} {gs : GenState} {F : Addr → Prop} {s s' : Shared} (h : GenGo G A l okc C g rz ds gs F s) (x : Cpt G.base okc F s.heap s'.heap) : GenGo G A l okc C g rz ds gs F s' :=
  genGo_iff.mpr fun s₁ y => genGo_iff.mp h s₁ (x.trans y)
/-- what a raise of next leaves -/
def DoneX (G : Gr) (F : Addr → Prop) (wg : Nat → Prop) (X : String) (msg : Str) (s : Shared) (x : Value) (s' : Shared) : Prop := ∃ s₂ e, x = .ref e ∧ MvI G.base F wg s s₂ ∧ Exc G.base X msg .fly s₂ s' e
def Done (G : Gr) (A : Around) (I : Addr) (F : Addr → Prop) (wg : Nat → Prop) (rz : Rz) (s : Shared) : Prop := match rz with
  | none => ∀ E, wpAny G.M A (pyNext (.ref I)) (fun r s' => r = none ∧ MvI G.base F wg s s') E s
  | some (X, msg) => wpAny G.M A (pyNext (.ref I)) (fun _ _ => False) (DoneX G F wg X msg s) s
/-- an iterator whose own objects grow; it may end by a raise -/
structure ItrZ (G : Gr) (A : Around) (l : List Env) (ok : Addr → Prop) (target : Expr) (I : Addr) (ds : List D) (C : Addr → Prop) (wg : Nat → Prop) (rz : Rz) (Sx : Nat → (Addr → Prop) → Shared → Prop) : Prop where
  core : ∀ i F s, Sx i F s → ∀ a, C a → F a
  frame : ∀ i F s s' W, Sx i F s → Mv G.base W s s' → (∀ a, F a → ¬ W a) → (∀ a, ok a → IsNode s.heap a → ¬ W a) → Sx i F s'
  node : ∀ i F s a, Sx i F s → F a → ¬ IsNode s.heap a ∧ (s.heap.get? a).isSome = true
  item : ∀ i F d s E ok', ds[i]? = some d → Sx i F s → G.base.StaysIn s.heap → Stk G.base s.heap A l → Apt l F → (∀ a, ok a → ok' a) → (∀ a, F a → ok' a) → FreshOk ok' s.heap → wpAny G.M A (pyNext (.ref I)) (fun r s₁ => ∃ v, r = some v ∧
    wpAny G.M A (letOwnedTupleGo target (.ref I) v) (fun _ s' => Rep ok' s'.heap v d ∧ MvI G.base F wg s s' ∧ ∃ F', Sx (i + 1) F' s' ∧ ∀ a, F' a → F a ∨ s.heap.get? a = none) E s₁) E s
  done : ∀ F s, Sx ds.length F s → G.base.StaysIn s.heap → Stk G.base s.heap A l → Apt l F → Done G A I F wg rz s
def EvIZ (G : Gr) (n : Nat) (env : Env) (l : List Env) (σ : St) (e target : Expr) (ds : List D) (rz : Rz) : Prop := ∀ ok A s E, Room n A → G.base.StaysIn s.heap → Inv G.base ok env σ s.heap → A.frames = some l →
  wpAny G.M A (eval e env) (fun x s₁ => wpAny G.M A (pyIter x) (fun it s' => Stp G.base s s' ∧ ∃ I wg Sx C, it = .ref I ∧
    ItrZ G A l (fun a => okO ok σ a ∧ (s'.heap.get? a).isSome = true) target I ds C wg rz Sx ∧ Sx 0 C s' ∧ (∀ a, C a → s.heap.get? a = none) ∧ ∀ g, wg g → s.gens[g]? = none) E s₁) E s
section
variable {G : Gr} {n : Nat} {env : Env} {σ : St} {sc : Scope}
/-- the state of a generator that is gone through -/
def GenSx (G : Gr) (A : Around) (l : List Env) (okc C : Addr → Prop) (I : Addr) (g : Nat) (rz : Rz) (ds : List D) (i : Nat) (FI : Addr → Prop) (s : Shared) : Prop :=
  ∃ F : Addr → Prop, FI = (fun a => F a ∨ a = I) ∧ (∀ a, C a → F a) ∧ ¬ F I ∧ s.heap.IsGen I g ∧ (∀ a, F a → ¬ IsNode s.heap a ∧ (s.heap.get? a).isSome = true) ∧ ∃ gs, s.gens[g]? = some gs ∧ GenGo G A l okc C g rz (ds.drop i) gs F s
theorem ItrZ.gen {A : Around} {l : List Env} {okc C : Addr → Prop} {target : Expr} {I : Addr} {g : Nat} {rz : Rz} {ds : List D} (hh : A.handled = none) (hroom : A.depth < recursionLimit) (hrz : ∀ X msg, rz = some (X, msg) → isSubtype (.type X) (.type "StopIteration") = pure false) :
    ItrZ G A l okc target I ds (fun a => C a ∨ a = I) (· = g) rz (GenSx G A.in1 l okc C I g rz ds) where
  core := fun i FI s hs a ha => by
    obtain ⟨F, rfl, hC, _⟩ := hs
    exact ha.imp (hC a) id
  frame := fun i FI s s' W hs mv hf hn => by
    obtain ⟨F, rfl, hC, h0, h1, h3, gs, h4, h5⟩ := hs
    refine ⟨F, rfl, hC, h0, isGen_mv mv.ext (hf I (.inr rfl)) h1, fun a ha => ⟨fun nd => (h3 a ha).1 (node_back mv.ext (hf a (.inl ha)) (h3 a ha).2 nd), ?_⟩, gs, mv.gens.keep g gs h4, h5.cpt ⟨W, mv.ext, mv.dom, fun a ha => hf a (.inl ha), hn⟩⟩
    cases q : s'.heap.get? a with
    | some _ => rfl
    | none => have := (h3 a ha).2; rw [mv.dom a q] at this; cases this
  node := fun i FI s a hs ha => by
    obtain ⟨F, rfl, hC, h0, h1, h3, _⟩ := hs
    rcases ha with ha | rfl
    · exact h3 a ha
    · exact isGen_node h1
  item := fun i FI d s E ok' hd hs kb hk hap hok hFok hfr => by
    obtain ⟨F, rfl, hC, h0, h1, h3, gs, h4, h5⟩ := hs
    have hdrop : ds.drop i = d :: ds.drop (i + 1) := by
      obtain ⟨hi, rfl⟩ := List.getElem?_eq_some_iff.mp hd
      exact List.drop_eq_getElem_cons hi
    rw [hdrop] at h5
    refine next_gen hh (G.nolimit.keeps kb) hroom h1 h4 (h5 s .refl kb (by rw [h4]; rfl) ⟨hk.frames, hk.funs⟩ fun e he L hL z => hap e he L hL (.inl z)) (fun e s' q => q.quiet) fun e s₁ q => .inl ?_
    obtain ⟨mi, gin, hq, ⟨v, gd, l, k, c, p, fs, rfl, rp⟩, F', f1, f2, f3, go⟩ := q
    have mu := mi.unset (x := (End.susp v gd l k c p fs).genState) (bare_of_quiet hq)
    have hgen : (s₁.setGen g (End.susp v gd l k c p fs).genState).heap.IsGen I g := isGen_mv mi.ext h0 h1
    have hF'I : ¬ F' I := fun z => (f2 I z).elim h0 fun z => by have := (isGen_node h1).2; rw [z] at this; cases this
    refine ⟨v, gd, l, k, c, p, fs, rfl, v, rfl, ?_⟩
    obtain ⟨o, nm, qn, e, c', d', sl⟩ := id hgen
    refine letOwned_plain (o := o) e c' (by decide) ⟨?_, mu.weak fun a => .inl, fun a => F' a ∨ a = I, ⟨F', rfl, f1, hF'I, hgen, f3, _, setGen_get gin, go.cpt .refl⟩, fun a ha => ?_⟩
    · exact rp.weak fun b q => q.elim (hok b) fun z => z.elim (fun z => hfr b z) fun z => hFok b (.inl z)
    · rcases ha with ha | ha
      · exact (f2 a ha).imp .inl id
      · exact .inl (.inr ha)
  done := fun FI s hs kb hk hap => by
    obtain ⟨F, rfl, hC, h0, h1, h3, gs, h4, h5⟩ := hs
    rw [List.drop_length] at h5
    have go := h5 s .refl kb (by rw [h4]; rfl) ⟨hk.frames, hk.funs⟩ fun e he L hL z => hap e he L hL (.inl z)
    cases rz with
    | none =>
      intro E
      refine next_gen hh (G.nolimit.keeps kb) hroom h1 h4 go (fun e s' q => q.quiet) fun e s₁ q => .inr (.inl ?_)
      obtain ⟨mi, gin, rfl⟩ := q
      refine ⟨rfl, fun h' hk => ⟨rfl, ?_⟩⟩
      exact ((mi.unset (x := .finished) rfl).weak fun a => .inl).heap hk
    | some xm =>
      obtain ⟨X, msg⟩ := xm
      refine next_gen hh (G.nolimit.keeps kb) hroom h1 h4 go (fun e s' q => q.quiet) fun e s₁ q => .inr (.inr ?_)
      obtain ⟨s₂, x, rfl, mi, ex⟩ := q
      have hg2 := isGen_mv mi.ext h0 h1
      have hty : s₁.TypeIs (.ref x) X := ex.typeIs
      obtain ⟨st, new, t, tk, it, tup⟩ := ex
      have mi2 : MvI G.base F (· = g) (s.setGen g .running) { s₂ with gens := s₁.gens } := ⟨mi.ext, mi.dom, mi.os, fun i y hi e => st.gens.keep i y (mi.gkeep i y hi e), fun q => st.gens.bare (mi.gbare q)⟩
      refine ⟨x, X, rfl, isGen_mv (st.mv (W := fun _ => False)).ext id hg2, hty, hrz X msg rfl, { s₂ with gens := (s₁.setGen g .finished).gens }, x, rfl, (mi2.unset (x := .finished) rfl).weak fun a => .inl, ⟨⟨st.ext, st.os, .refl⟩, new, t, tk, it, tup⟩⟩
end
end Z
end Mine
end
section
open PySem PySem.W PyProof.Rows PySem.Calls
set_option maxRecDepth 100000
namespace Mine
namespace Z
section
variable {G : Gr} {n : Nat} {env : Env} {σ : St} {sc : Scope} {A : Around} {okc : Addr → Prop} {g : Nat} {c : Code} {fs : List PySem.Frame} {FR : Addr → Prop} {Res : Heap → Prop} {ds : List D} {l : List Env} {rz : Rz}
  {K : Flow → Sem Fin} {H : Value → Sem Fin} {gd : Bool → Bool} {lv : List Value → List Value}
def Stable (G : Gr) (okc FR : Addr → Prop) (Res : Heap → Prop) : Prop := ∀ h h' W, Res h → G.base.StaysIn h' → ExtBut G.base W h h' → (∀ a, FR a → ¬ W a) → (∀ a, okc a → IsNode h a → ¬ W a) → Res h'
/-- a generator's frame at work -/
structure Run (G : Gr) (A : Around) (l : List Env) (okc : Addr → Prop) (g : Nat) (env : Env) (FR : Addr → Prop) (Res : Heap → Prop) (s₁ : Shared) (F₁ F : Addr → Prop) (σ : St) (s : Shared) : Prop where
  start : G.base.StaysIn s₁.heap
  base : G.base.StaysIn s.heap
  inv : Inv G.base (fun b => okc b ∨ s₁.heap.get? b = none ∨ F₁ b) env σ s.heap
  mv : MvI G.base F₁ (· = g) (s₁.setGen g .running) s
  up : ∀ a, FrW env a → F a
  dn : ∀ a, F a → F₁ a ∨ s₁.heap.get? a = none
  fr : ∀ a, FrW env a → F₁ a
  off : ∀ a, F₁ a → G.base.get? a = none
  nd : ∀ a, F a → ¬ IsNode s.heap a ∧ (s.heap.get? a).isSome = true
  sub : ∀ a, FR a → F a ∧ ¬ FrW env a
  res : Res s.heap
  own : owned σ = []
  gin : (s.gens[g]?).isSome = true
  stk : Stk G.base s₁.heap A l
  apt : Apt l F₁
def Gs (G : Gr) (A : Around) (l : List Env) (rz : Rz) (okc : Addr → Prop) (g : Nat) (env : Env) (c : Code) (fs : List PySem.Frame) (FR : Addr → Prop) (Res : Heap → Prop) (σ : St) (t : Sem Fin) (ds : List D) : Prop :=
  ∀ s₁ F₁ F s, Run G A l okc g env FR Res s₁ F₁ F σ s → Sg G.M A (GPost G A l okc (FrW env) g rz ds s₁ F₁) c t fs s
/-- a step of the frame's own -/
theorem Run.step {s₁ s s' : Shared} {F₁ F : Addr → Prop} {σ' : St} (r : Run G A l okc g env FR Res s₁ F₁ F σ s) (st : Stable G okc FR Res) (i : Inv G.base (fun b => okc b ∨ s₁.heap.get? b = none ∨ F₁ b) env σ' s'.heap) (m : Mv G.base (Wr env σ) s s') (k : G.base.StaysIn s'.heap) (o : owned σ' = []) :
    Run G A l okc g env FR Res s₁ F₁ F σ' s' := by
  have hw : ∀ a, Wr env σ a → FrW env a := fun a w => by
    rcases w with w | w
    · exact w
    · rw [r.own] at w; cases w
  refine ⟨r.start, k, i, r.mv.thenMv m fun a w => .inl (r.fr a (hw a w)), r.up, r.dn, r.fr, r.off, fun a ha => ?_, r.sub, ?_, o, ?_, r.stk, r.apt⟩
  · have hs : (s'.heap.get? a).isSome = true := by
      cases q : s'.heap.get? a with
      | some _ => rfl
      | none => have := (r.nd a ha).2; rw [m.dom a q] at this; cases this
    refine ⟨fun nd => ?_, hs⟩
    by_cases hf : FrW env a
    · exact node_not_frame i.frame nd hf
    · exact (r.nd a ha).1 (node_back m.ext (fun w => hf (hw a w)) (r.nd a ha).2 nd)
  · exact st s.heap s'.heap _ r.res k m.ext (fun a ha w => (r.sub a ha).2 (hw a w)) fun a _ nd w => node_not_frame r.inv.frame nd (hw a w)
  · obtain ⟨x, hx⟩ := Option.isSome_iff_exists.mp r.gin
    rw [m.gens.keep g x hx]; rfl
theorem Run.stp {s₁ s s' : Shared} {F₁ F : Addr → Prop} (r : Run G A l okc g env FR Res s₁ F₁ F σ s) (st : Stable G okc FR Res) (x : Stp G.base s s') : Run G A l okc g env FR Res s₁ F₁ F σ s' :=
  r.step st (r.inv.ext x.ext) x.mv (x.ext.base r.base) r.own
theorem Gs.nil (h : Gs G A l rz okc g env c fs FR Res σ (K .next) ds) : Gs G A l rz okc g env c fs FR Res σ ((execs [] env).wrap K H gd lv) ds := h
theorem Gs.cons {st : Stmt} {rest : List Stmt} (h : Gs G A l rz okc g env c fs FR Res σ ((exec st env).wrap (fun f => match f with | .next => (execs rest env).wrap K H gd lv | f => K f) H gd lv) ds) :
    Gs G A l rz okc g env c fs FR Res σ ((execs (st :: rest) env).wrap K H gd lv) ds := by
  rw [execs_cons_wrap]; exact h
theorem Gs.stmt {st : Stmt} (hr : Room n (A.over c fs)) (hst : Stable G okc FR Res) (h : Ex1 G n env σ st fun fl σ' => fl = .next ∧ owned σ' = [] ∧ Gs G A l rz okc g env c fs FR Res σ' (K .next) ds) : Gs G A l rz okc g env c fs FR Res σ ((exec st env).wrap K H gd lv) ds := fun s₁ F₁ F s r =>
  .wrap (wpAny_mono (h _ _ s _ hr r.base r.inv) (fun f s' a => by
    obtain ⟨fl, σ', ⟨rfl, o, q⟩, fi, i, m, k, _⟩ := a
    cases f <;> first | exact fi.elim | skip
    exact q s₁ F₁ F s' (r.step hst i m k o)) fun _ _ x => x)
theorem Gs.assign {x : Str} {e : Expr} {p pos : Pos} {d : D} (hr : Room n (A.over c fs)) (hst : Stable G okc FR Res) (h : Ev G n env σ e d) (hx : Storable env x) (ho : owned σ = []) (q : Gs G A l rz okc g env c fs FR Res (setS x (.val d) σ) (K .next) ds) (hs : swapsWith e (some (.Name x p)) pos.line env = pure false := by rfl) :
    Gs G A l rz okc g env c fs FR Res σ ((exec (.Assign [.Name x p] e pos) env).wrap K H gd lv) ds :=
  .stmt hr hst ((Ex1.assign h hx hs).mono fun fl σ' z => by obtain ⟨rfl, rfl⟩ := z; exact ⟨rfl, owned_setS_nil ho, q⟩)
theorem Gs.ite {t : Expr} {a b : List Stmt} {pos : Pos} {x : Bool} (hr : Room n (A.over c fs)) (hst : Stable G okc FR Res) (h : Tr G n env σ t x) (ha : x = true → Gs G A l rz okc g env c fs FR Res σ ((execs a env).wrap K H gd lv) ds) (hb : x = false → Gs G A l rz okc g env c fs FR Res σ ((execs b env).wrap K H gd lv) ds) :
    Gs G A l rz okc g env c fs FR Res σ ((exec (.If t a b pos) env).wrap K H gd lv) ds := fun s₁ F₁ F s r => by
  rw [exec_If]
  show Sg _ _ _ _ (.at pos fun _ => ((isTrue t env (eval t env)) >>= fun y => if y = true then execs a env else execs b env).wrap K H gd lv) _ _
  refine .stand ?_
  rw [Sem.bind_eq_wrap', Sem.wrap_wrap]
  refine .wrap (wpAny_mono (h _ _ s _ hr r.base r.inv) (fun y s' q => ?_) fun _ _ x => x)
  obtain ⟨st, rfl⟩ := q
  have r' := r.stp hst st
  cases y with
  | true => exact ha rfl s₁ F₁ F s' r'
  | false => exact hb rfl s₁ F₁ F s' r'
theorem Gs.yield {e : Expr} {yp pos : Pos} {d : D} {σ' : St} (hr : Room n (A.over c fs)) (hst : Stable G okc FR Res) (hfs : splitAtGen fs = none) (hgd : gd false = false) (hfg : fs.any Frame.guarded = false) (h : Ev G n env σ e d) (hsub : Sub σ' σ) (hp : Plain σ' = true)
    (hco : env.scope.isCoroutine = false) (q : Gs G A l rz okc g env c fs FR Res σ' (K .next) ds) :
    Gs G A l rz okc g env c fs FR Res σ ((exec (.Expr (.Yield (some e) yp) pos) env).wrap K H gd lv) (d :: ds) := fun s₁ F₁ F s r => by
  rw [exec_Expr env (.Yield (some e) yp) pos (by unfold interactive; rw [r.inv.frame.kind]; rfl) rfl]
  show Sg _ _ _ _ (.at pos fun _ => ((eval e env >>= fun v => (standAt yp >>= fun _ => yieldOut env v)) >>= fun x => dropValue (.Yield (some e) yp) pos x).wrap K H gd lv) _ _
  have hy : ∀ v, yieldOut env v = yieldValue v := fun v => by simp only [yieldOut, hco, Bool.false_eq_true, if_false]
  simp only [hy]
  refine .stand ?_
  rw [Sem.bind_eq_wrap', Sem.bind_eq_wrap', Sem.wrap_wrap, Sem.wrap_wrap]
  refine .wrap (wpAny_mono (h _ _ s _ hr r.base r.inv) (fun v s' p => ?_) fun _ _ x => x)
  obtain ⟨st, rp⟩ := p
  have r' := r.stp hst st
  refine .stand (.out hfs fun pp => ?_)
  refine ⟨r'.mv, r'.gin, by simp [End.quiet, hgd, hfg], ⟨v, _, _, _, _, _, _, rfl, rp.weak fun b q => q.1⟩, F, r'.up, r'.dn, r'.nd, ?_⟩
  refine genGo_iff.mpr fun s₂ hc hb hg hsk hap => ?_
  show Sg G.M A _ c (K .next) fs (s₂.setGen g .running)
  obtain ⟨W, hx, hdom, hF, hok⟩ := hc
  have hno := Plain.owned hp
  refine q s₂ F F _ ⟨hb, hb, ?_, ⟨fun b o _ e => ⟨o, e, rfl, rfl, fun _ => rfl⟩, fun _ _ e => e, rfl, fun _ _ _ e => e, fun z => z⟩, fun a w => r'.up a w, fun _ z => .inl z, fun a w => r'.up a w, fun a ha => ?_, fun a ha => ?_, r'.sub, hst _ _ W r'.res hb hx (fun a ha => hF a (r'.sub a ha).1) hok, hno, ?_, hsk, hap⟩
  · have hFr : ∀ a, FrW env a → ¬ W a := fun a w => hF a (r'.up a w)
    have i' := r'.inv
    have hh : ∀ y v, Holds env s'.heap y v → Holds env s₂.heap y v := fun y v q => by
      rcases q with ⟨k, mm, hns, rr⟩ | ⟨k, cc, hcc, rr⟩
      · obtain ⟨o, es, ep, e, d, rr'⟩ := hns
        obtain ⟨o', e', _, d', _⟩ := hx _ o (hFr _ (.inl rfl)) e
        exact .inl ⟨k, mm, ⟨o', es, ep, e', d'.trans d, rr'⟩, rr⟩
      · obtain ⟨o, e, d⟩ := rr
        obtain ⟨o', e', _, d', _⟩ := hx _ o (hFr _ (.inr ⟨y, hcc⟩)) e
        exact .inr ⟨k, cc, hcc, o', e', d'.trans d⟩
    refine ⟨⟨i'.frame.kind, ?_, fun y cc q => ?_, i'.frame.apart, i'.frame.away, i'.frame.glob, i'.frame.blt⟩, fun a w => ?_, fun b e => .inr (.inl e), fun y dd l => ?_, fun y a es l => absurd l (Plain.noOwn hp), fun a w => ?_, ?_⟩
    · obtain ⟨mm, o, es, ep, e, d, rr⟩ := i'.frame.ns
      obtain ⟨o', e', _, d', _⟩ := hx _ o (hFr _ (.inl rfl)) e
      exact ⟨mm, o', es, ep, e', d'.trans d, rr⟩
    · obtain ⟨v, o, e, d⟩ := i'.frame.cells y cc q
      obtain ⟨o', e', _, d', _⟩ := hx _ o (hFr _ (.inr ⟨y, q⟩)) e
      exact ⟨v, o', e', d'.trans d⟩
    · rcases w with w | w
      · exact i'.off a (.inl w)
      · rw [hno] at w; cases w
    · obtain ⟨u, p, rr⟩ := i'.vals y dd (hsub.get l)
      exact ⟨u, hh y u p, rr.atomic (Plain.get hp l)⟩
    · rw [hno] at w; cases w
    · rw [hno]; exact List.nodup_nil
  · rcases r'.dn a ha with z | z
    · exact r'.off a z
    · cases q : G.base.get? a with
      | none => rfl
      | some o =>
        rw [r'.start a o q] at z; cases z
  · refine ⟨fun nd => (r'.nd a ha).1 (node_back hx (hF a ha) (r'.nd a ha).2 nd), ?_⟩
    cases q : s₂.heap.get? a with
    | some _ => exact (by show (s₂.heap.get? a).isSome = true; rw [q]; rfl)
    | none => have := (r'.nd a ha).2; rw [hdom a q] at this; cases this
  · rw [setGen_get hg]; rfl
/-- an exception's way so far, seen from a frame -/
def WayOk (env : Env) (w : Way) : Prop := w = .new ∨ w = .fly ∨ w = .at env.locals
/-- a handler that takes an exception on to the generator's end -/
def GsH (G : Gr) (A : Around) (l : List Env) (okc : Addr → Prop) (g : Nat) (env : Env) (c : Code) (fs : List PySem.Frame) (FR : Addr → Prop) (Res : Heap → Prop) (X : String) (msg : Str) (H : Value → Sem Fin) : Prop :=
  ∀ s₁ F₁ F σ s e w s', Run G A l okc g env FR Res s₁ F₁ F σ s → WayOk env w → Exc G.base X msg w s s' e → Sg G.M A (zEnd G g (some (X, msg)) s₁ F₁) c (H (.ref e)) fs s'
theorem Run.over {s₁ s : Shared} {F₁ F : Addr → Prop} (r : Run G A l okc g env FR Res s₁ F₁ F σ s) (hov : ∀ l, A.frames = some l → (A.over c fs).frames = some (env :: l)) (hfl : env.frame = some env.locals) : Stk G.base s.heap (A.over c fs) (env :: l) := by
  refine ⟨hov l r.stk.frames, fun e he => ?_⟩
  rcases List.mem_cons.mp he with q | q
  · subst q
    obtain ⟨m, hn⟩ := r.inv.frame.ns
    exact ⟨r.inv.frame.kind, _, m, hfl, r.inv.off _ (.inl (.inl rfl)), hn⟩
  · obtain ⟨c1, L, m, c2, c3, o, es, ep, e1, d1, r1⟩ := r.stk.funs e q
    obtain ⟨o', e', _, d', _⟩ := r.mv.ext L o (r.apt e q L c2) e1
    exact ⟨c1, L, m, c2, c3, o', es, ep, e', d'.trans d1, r1⟩
/-- yield e, where e raises -/
theorem Gs.yieldX {X : String} {msg : Str} {e : Expr} {yp pos : Pos} (hr : Room n (A.over c fs)) (h : EvX G n env (fun _ _ => True) σ e X msg) (hH : GsH G A l okc g env c fs FR Res X msg H) :
    Gs G A l (some (X, msg)) okc g env c fs FR Res σ ((exec (.Expr (.Yield (some e) yp) pos) env).wrap K H gd lv) [] := fun s₁ F₁ F s r => by
  rw [exec_Expr env (.Yield (some e) yp) pos (by unfold interactive; rw [r.inv.frame.kind]; rfl) rfl]
  show Sg _ _ _ _ (.at pos fun _ => ((eval e env >>= fun v => (standAt yp >>= fun _ => yieldOut env v)) >>= fun x => dropValue (.Yield (some e) yp) pos x).wrap K H gd lv) _ _
  refine .stand ?_
  rw [Sem.bind_eq_wrap', Sem.bind_eq_wrap', Sem.wrap_wrap, Sem.wrap_wrap]
  refine .wrap (wpAny_mono (h _ _ s trivial hr r.base r.inv) (fun v s' p => p.elim) fun x s' z => ?_)
  obtain ⟨a, w, rfl, hw, ex⟩ := z
  exact hH s₁ F₁ F σ s a w s' r (hw.elim .inl fun z => .inr (.inl z)) ex
end
end Z
end Mine
end
section
open PySem PySem.W PyProof.Rows PySem.Calls
set_option maxRecDepth 100000
namespace Mine
namespace Z
section
variable {G : Gr} {n : Nat} {env : Env} {σ : St} {sc : Scope} {A : Around} {okc : Addr → Prop} {g : Nat} {c : Code} {fs : List PySem.Frame} {FR : Addr → Prop} {Res : Heap → Prop} {ds : List D} {l : List Env} {rz : Rz}
  {K : Flow → Sem Fin} {H : Value → Sem Fin} {gd : Bool → Bool} {lv : List Value → List Value}
theorem Gs.only {σ₀ : St} {t : Sem Fin} (hs : Sub σ₀ σ) (h : Gs G A l rz okc g env c fs FR Res σ₀ t ds) : Gs G A l rz okc g env c fs FR Res σ t ds := fun s₁ F₁ F s r => by
  have ho : owned σ₀ = [] := List.eq_nil_iff_forall_not_mem.mpr fun a w => by have := hs.owned a w; rw [r.own] at this; cases this
  exact h s₁ F₁ F s ⟨r.start, r.base, r.inv.sub hs (by rw [ho]; exact List.nodup_nil), r.mv, r.up, r.dn, r.fr, r.off, r.nd, r.sub, r.res, ho, r.gin, r.stk, r.apt⟩
/-- an iterator that leans on the heap alone -/
structure ItrN (G : Gr) (A : Around) (okc : Addr → Prop) (target : Expr) (I : Addr) (es : List D) (fp : Addr → Prop) (Sx : Nat → Heap → Prop) : Prop where
  node : ∀ i (s : Shared) a, Sx i s.heap → fp a → ¬ IsNode s.heap a ∧ (s.heap.get? a).isSome = true
  item : ∀ i d s E ok', es[i]? = some d → Sx i s.heap → G.base.StaysIn s.heap → (∀ a, okc a → ok' a) → FreshOk ok' s.heap → wpAny G.M A (pyNext (.ref I)) (fun r s₁ => ∃ v, r = some v ∧
    wpAny G.M A (letOwnedTupleGo target (.ref I) v) (fun _ s' => Rep ok' s'.heap v d ∧ Sx (i + 1) s'.heap ∧ MvI G.base fp (fun _ => False) s s') E s₁) E s
  done : ∀ s E, Sx es.length s.heap → G.base.StaysIn s.heap → wpAny G.M A (pyNext (.ref I)) (fun r s' => r = none ∧ MvI G.base fp (fun _ => False) s s') E s
structure ItrH (G : Gr) (okc : Addr → Prop) (target : Expr) (I : Addr) (es : List D) (fp : Addr → Prop) (Sx : Nat → Heap → Prop) : Prop where
  itr : ∀ A' : Around, A'.handled = none → ItrN G A' okc target I es fp Sx
  frame : ∀ i h h' W, Sx i h → G.base.StaysIn h' → ExtBut G.base W h h' → (∀ a, fp a → ¬ W a) → (∀ a, okc a → IsNode h a → ¬ W a) → Sx i h'
def EvIA (G : Gr) (n : Nat) (env : Env) (σ : St) (okc : Addr → Prop) (Res : Heap → Prop) (e target : Expr) (es : List D) : Prop := ∀ ok A s E, Room n A → G.base.StaysIn s.heap → Inv G.base ok env σ s.heap → Res s.heap →
  wpAny G.M A (eval e env) (fun x s₁ => wpAny G.M A (pyIter x) (fun it s' => Stp G.base s s' ∧ ∃ I fp Sx, it = .ref I ∧ ItrH G okc target I es fp Sx ∧ Sx 0 s'.heap ∧ ∀ a, fp a → s.heap.get? a = none) E s₁) E s
/-- what a loop's turn may lean on -/
structure Lp (G : Gr) (n : Nat) (A : Around) (env : Env) (okc FR : Addr → Prop) (Res : Heap → Prop) (c : Code) (fs : List PySem.Frame) : Prop where
  over : ∀ l, A.frames = some l → (A.over c fs).frames = some (env :: l)
  fl : env.frame = some env.locals
  room : Room n (A.over c fs)
  stable : Stable G okc FR Res
  split : splitAtGen fs = none
  quiet : fs.any Frame.guarded = false
theorem over_frames {A : Around} {target : Expr} {it : Value} {body : List Stmt} {env : Env} {k : Result → Sem Fin} {gb : Bool} {l : List Value} {c : Code} {p : Pos} {fs : List PySem.Frame} :
    (A.over (.forLoop target it body [] env) (.ret k none gb l c p [] :: fs)).frames = (A.over c fs).frames := by
  have e : (Code.forLoop target it body [] env).envs = [] := rfl
  simp only [Around.over, List.map_cons, Frame.where_, envsOf_cons, e, pushEnvs_eq]
  cases A.frames <;> simp
theorem Run.offF {s₁ s : Shared} {F₁ F : Addr → Prop} (r : Run G A l okc g env FR Res s₁ F₁ F σ s) : ∀ a, F a → G.base.get? a = none := fun a ha => by
  rcases r.dn a ha with z | z
  · exact r.off a z
  · cases q : G.base.get? a with
    | none => rfl
    | some o => rw [r.start a o q] at z; cases z
theorem Run.mvI {s₁ s s' : Shared} {F₁ F : Addr → Prop} (r : Run G A l okc g env FR Res s₁ F₁ F σ s) (mi : MvI G.base FR (fun _ => False) s s') :
    G.base.StaysIn s'.heap ∧ Inv G.base (fun b => okc b ∨ s₁.heap.get? b = none ∨ F₁ b) env σ s'.heap ∧ MvI G.base F₁ (· = g) (s₁.setGen g .running) s' ∧ (s'.gens[g]?).isSome = true := by
  refine ⟨fun b o e => ?_, r.inv.mvI mi (fun a ha w => ?_) (fun a ha => (r.nd a (r.sub a ha).1).1) fun b hb => ?_, r.mv.thenI mi (fun a ha => r.dn a (r.sub a ha).1) fun _ z => z.elim, ?_⟩
  · obtain ⟨o', e', _, _, k'⟩ := mi.ext b o (fun z => by rw [r.offF b (r.sub b z).1] at e; cases e) (r.base b o e)
    rw [e', k' (.inl (by rw [e]; rfl))]
  · rcases w with w | w
    · exact (r.sub a ha).2 w
    · rw [r.own] at w; cases w
  · exact .inr ((r.dn b (r.sub b hb).1).symm)
  · obtain ⟨x, hx⟩ := Option.isSome_iff_exists.mp r.gin
    rw [mi.gkeep g x (fun z => z) hx]; rfl
theorem Gs.forA {ι : Type} {target iter : Expr} {body : List Stmt} {pos : Pos} {es : List D} {f : D → St → St} (S : Nat → ι → St) (J : Nat → ι → Prop) (out : Nat → ι → List D) (p₀ : ι)
    (L : Lp G n A env okc (fun _ => False) Res c fs) (hgd : gd false = false) (hH : ∀ X msg, rz = some (X, msg) → GsH G A l okc g env c fs (fun _ => False) Res X msg H) (hJ : J 0 p₀) (h0 : Sub (S 0 p₀) σ) (hso : ∀ i p, owned (S i p) = [])
    (hi : EvIA G n env (S 0 p₀) okc Res iter target es) (ht : ∀ d ∈ es, AssD G n env target d (f d)) (hfo : ∀ d i p, owned (f d (S i p)) = [])
    (turn : ∀ (c' : Code) (fs' : List PySem.Frame) (FR' : Addr → Prop) (Res' : Heap → Prop) (KL : Flow → Sem Fin) (HL : Value → Sem Fin) (i : Nat) (d : D) (p : ι), Lp G n A env okc FR' Res' c' fs' → (∀ X msg, rz = some (X, msg) → GsH G A l okc g env c' fs' FR' Res' X msg HL) → es[i]? = some d → J i p →
      (∀ p', J (i + 1) p' → Gs G A l rz okc g env c' fs' FR' Res' (S (i + 1) p') (KL .next) (out (i + 1) p')) → Gs G A l rz okc g env c' fs' FR' Res' (f d (S i p)) ((execs body env).wrap KL HL id id) (out i p))
    (done : ∀ p, J es.length p → Gs G A l rz okc g env c fs (fun _ => False) Res (S es.length p) (K .next) (out es.length p)) (hRes : ∀ h h' W, Res h → G.base.StaysIn h' → ExtBut G.base W h h' → (∀ a, okc a → IsNode h a → ¬ W a) → Res h')
    (hs : ∀ x, foldedSetIterable iter env x = pure x := by intro _; rfl) :
    Gs G A l rz okc g env c fs (fun _ => False) Res σ ((exec (.For target iter body [] pos) env).wrap K H gd lv) (out 0 p₀) := by
  refine Gs.only h0 fun s₁ F₁ F s r => ?_
  rw [exec_For]
  refine .bindw (wpAny_standAt ?_)
  refine .bindw (wpAny_mono (hi _ _ s _ L.room r.base r.inv r.res) (fun x s₂ q => ?_) fun _ _ x => x)
  refine .bindw (wpAny_of_eq (hs x) ?_)
  refine .bindw (wpAny_standAt ?_)
  refine .bindw (wpAny_holding (wpAny_mono q (fun it s₃ q => ?_) fun _ _ x => x))
  obtain ⟨st, I, fp, Sx, rfl, W, hx0, hfp⟩ := q
  have r₃ := r.stp L.stable st
  show Sg _ _ _ _ (.call (.forLoop target (.ref I) body [] env) none (gd false) (lv []) _) _ _
  refine .enter fun pp => ?_
  generalize hc' : Code.forLoop target (.ref I) body [] env = c'
  generalize hfs' : (PySem.Frame.ret _ none (gd false) (lv []) c pp []) :: fs = fs'
  have room' : Room n (A.over c' fs') := by rw [← hc', ← hfs']; exact over_loop L.room
  have over' : ∀ l, A.frames = some l → (A.over c' fs').frames = some (env :: l) := fun l h => by rw [← hc', ← hfs', over_frames]; exact L.over l h
  have split' : splitAtGen fs' = none := by rw [← hfs']; show (splitAtGen fs).map _ = none; rw [L.split]; rfl
  have quiet' : fs'.any Frame.guarded = false := by rw [← hfs']; show (gd false || fs.any Frame.guarded) = false; rw [hgd, L.quiet]; rfl
  have stab' : ∀ j, Stable G okc fp (fun h => Sx j h ∧ Res h) := fun j h h' V q e0 e1 e2 e3 => ⟨W.frame j h h' V q.1 e0 e1 e2 e3, hRes h h' V q.2 e0 e1 e3⟩
  have hA' : ∀ j, Lp G n A env okc fp (fun h => Sx j h ∧ Res h) c' fs' := fun j => ⟨over', L.fl, room', stab' j, split', quiet'⟩
  have It := W.itr (A.over c' fs') room'.handled
  have hHL : ∀ j X msg, rz = some (X, msg) → GsH G A l okc g env c' fs' fp (fun h => Sx j h ∧ Res h) X msg (fun x => (Sem.raise x).wrap .pure (fun e => (do noteFrame e env; theTreesLotGoes e).bind fun _ => .raise e) id id) := by
    intro j X msg hz s₁ F₁ F σ s e w s' r hw ex
    have K := r.over over' L.fl
    show Sg _ _ _ _ ((do noteFrame (.ref e) env; theTreesLotGoes (.ref e)).bind fun _ => .raise (.ref e)) _ _
    rw [Sem.bind_eq_wrap]
    refine .wrap (wpAny_bind (ex.note K L.fl (fun L' z => ?_) fun s'' ex' => wpAny_theTreesLotGoes ?_))
    · rcases hw with hw | hw | hw <;> rw [hw] at z <;> cases z
      rfl
    show Sg _ _ _ _ (leafOf (.error (.ref e))) _ _
    rw [← hfs']
    refine .back (.error (.ref e)) ?_
    refine Sg.bindw (m := (do
      if (← field (.ref e) 1) == .none then unsupported "frame.own-activation:exception-without-traceback"
      setFlight (.ref e) env.frame)) (f := fun _ => .raise (.ref e)) ?_
    refine ex'.back (E := fun x s' => Sg G.M A (zEnd G g (some (X, msg)) s₁ F₁) c (H x) fs s') L.fl fun s₃ ex₃ => ?_
    refine hH X msg hz s₁ F₁ (FrW env) σ s e _ s₃ ⟨r.start, r.base, r.inv, r.mv, fun _ w => w, fun a w => .inl (r.fr a w), r.fr, r.off, fun a w => ⟨fun nd => node_not_frame r.inv.frame nd w, ?_⟩, nofun, r.res.2, r.own, r.gin, r.stk, r.apt⟩ (.inr (.inr rfl)) ex₃
    rcases w with rfl | ⟨x, w⟩
    · obtain ⟨mm, o, _, _, e, _⟩ := r.inv.frame.ns; rw [e]; rfl
    · obtain ⟨v, o, e, _⟩ := r.inv.frame.cells x a w; rw [e]; rfl
  -- the turns, from the last
  have loop : ∀ m i p, es.length - i = m → i ≤ es.length → J i p → Gs G A l rz okc g env c' fs' fp (fun h => Sx i h ∧ Res h) (S i p) (G.M.den c') (out i p) := by
    intro m
    induction m with
    | zero =>
      intro i p hm hi' hj s₁ F₁ F s r
      have hil : i = es.length := by omega
      subst hil
      rw [← hc']
      show Sg _ _ _ _ ((forTurn target (.ref I) body [] env).onRaise (fun x => do noteFrame x env; theTreesLotGoes x)) _ _
      rw [Sem.onRaise_eq_wrap]
      unfold forTurn
      rw [hc']
      refine .bindw (wpAny_standAt ?_)
      refine .bindw (wpAny_onRaise (wpAny_mono (It.done s (fun _ _ => False) r.res.1 r.base) (fun r' s' q => ?_) fun _ _ f => f.elim))
      obtain ⟨rfl, mi⟩ := q
      show Sg _ _ _ _ (.pure (.again (.block [] env))) _ _
      refine .again rfl ?_
      show Sg _ _ _ _ (leafOf (.ok .next)) _ _
      rw [← hfs']
      refine .back (.ok .next) ?_
      -- the loop is left: the iterator's objects are let go
      obtain ⟨b', i', m', g'⟩ := r.mvI mi
      refine done p hj s₁ F₁ (FrW env) s' ⟨r.start, b', i', m', fun _ w => w, fun a w => .inl (r.fr a w), r.fr, r.off, fun a w => ⟨fun nd => node_not_frame i'.frame nd w, ?_⟩, nofun, hRes _ _ fp r.res.2 b' mi.ext (fun a _ nd z => (r.nd a (r.sub a z).1).1 nd), r.own, g', r.stk, r.apt⟩
      rcases w with rfl | ⟨x, w⟩
      · obtain ⟨mm, o, _, _, e, _⟩ := i'.frame.ns; rw [e]; rfl
      · obtain ⟨v, o, e, _⟩ := i'.frame.cells x a w; rw [e]; rfl
    | succ m ih =>
      intro i p hm hi' hj s₁ F₁ F s r
      have hlt : i < es.length := by omega
      have hd : es[i]? = some es[i] := List.getElem?_eq_getElem hlt
      rw [← hc']
      show Sg _ _ _ _ ((forTurn target (.ref I) body [] env).onRaise (fun x => do noteFrame x env; theTreesLotGoes x)) _ _
      rw [Sem.onRaise_eq_wrap]
      unfold forTurn
      rw [hc']
      refine .bindw (wpAny_standAt ?_)
      have fr : FreshOk (okO (fun b => okc b ∨ s₁.heap.get? b = none ∨ F₁ b) (S i p)) s.heap := r.inv.freshO
      refine .bindw (wpAny_onRaise (wpAny_mono (It.item i es[i] s (fun _ _ => False) (okO (fun b => okc b ∨ s₁.heap.get? b = none ∨ F₁ b) (S i p)) hd r.res.1 r.base (fun a q => ⟨.inl q, by rw [hso]; simp⟩) fr) (fun r' s' q => ?_) fun _ _ f => f.elim))
      obtain ⟨v, rfl, q⟩ := q
      show Sg _ _ _ _ ((letOwnedTupleGo target (.ref I) v >>= fun _ => PySem.assign target env v >>= fun _ => execs body env >>= fun fl => match fl with
        | .next | .cont => again c'
        | .brk => pure (.done .next)
        | .ret v => pure (.done (.ret v))).wrap .pure _ id id) _ _
      refine .bindw (wpAny_mono q (fun _ s₄ q => ?_) fun _ _ f => f.elim)
      obtain ⟨rp, hSx', mi⟩ := q
      obtain ⟨b', i', m', g'⟩ := r.mvI mi
      have nd' : ∀ a, F a → ¬ IsNode s₄.heap a ∧ (s₄.heap.get? a).isSome = true := fun a ha => by
        by_cases z : fp a
        · exact It.node (i + 1) s₄ a hSx' z
        · refine ⟨fun nd => (r.nd a ha).1 (node_back mi.ext z (r.nd a ha).2 nd), ?_⟩
          cases q : s₄.heap.get? a with
          | some _ => rfl
          | none => have := (r.nd a ha).2; rw [mi.dom a z q] at this; cases this
      have r₄ : Run G A l okc g env fp (fun h => Sx (i + 1) h ∧ Res h) s₁ F₁ F (S i p) s₄ :=
        ⟨r.start, b', i', m', r.up, r.dn, r.fr, r.off, nd', r.sub, ⟨hSx', hRes _ _ fp r.res.2 b' mi.ext fun a _ nd z => (r.nd a (r.sub a z).1).1 nd⟩, r.own, g', r.stk, r.apt⟩
      refine .bindw (wpAny_mono (ht es[i] (List.getElem_mem hlt) (S i p) _ _ s₄ _ v room' b' i' rp) (fun _ s₅ q => ?_) fun _ _ x => x)
      obtain ⟨i₅, m₅, o₅⟩ := q
      have b₅ : G.base.StaysIn s₅.heap := m₅.base b' i'.off
      have r₅ := r₄.step (stab' (i + 1)) i₅ m₅ b₅ (hfo _ _ _)
      rw [Sem.bind_eq_wrap', Sem.wrap_wrap]
      refine turn c' fs' fp (fun h => Sx (i + 1) h ∧ Res h) (fun f => (match f with
        | .next | .cont => again c'
        | .brk => pure (.done .next)
        | .ret v => pure (.done (.ret v)) : Sem Fin).wrap .pure _ id id) _ i es[i] p (hA' (i + 1)) (fun X msg hz => ?_) hd hj (fun p' hj' => ?_) s₁ F₁ F s₅ r₅
      · exact hHL (i + 1) X msg hz
      intro s₁ F₁ F s r
      show Sg _ _ _ _ (.pure (.again c')) _ _
      exact .again (by rw [← hc']; rfl) (ih (i + 1) p' (by omega) hlt hj' s₁ F₁ F s r)
  refine loop es.length 0 p₀ rfl (Nat.zero_le _) hJ s₁ F₁ (fun a => F a ∨ fp a) s₃ ⟨r₃.start, r₃.base, r₃.inv, r₃.mv, fun a w => .inl (r₃.up a w), fun a ha => ?_, r₃.fr, r₃.off, fun a ha => ?_, fun a ha => ⟨.inr ha, fun w => fresh_not_wr r.inv (hfp a ha) (.inl w)⟩, ⟨hx0, r₃.res⟩, r₃.own, r₃.gin, r₃.stk, r₃.apt⟩
  · rcases ha with ha | ha
    · exact r₃.dn a ha
    · by_cases z : F₁ a
      · exact .inl z
      · exact .inr (r.mv.dom a z (hfp a ha))
  · rcases ha with ha | ha
    · exact r₃.nd a ha
    · exact It.node 0 s₃ a hx0 ha
end
end Z
end Mine
end
section
open PySem PySem.W PyProof.Rows PySem.Calls
set_option maxRecDepth 100000
namespace Mine
namespace Z
section
variable {prog : Program} {w : World} {A : Around} {E : Value → Shared → Prop} {s : Shared}
theorem nextOf_tup_item {it t : Addr} {i : Nat} {items : Array Value} {x : Value} {Q : Value → Shared → Prop} (hit : IsTupIter s.heap it t i) (ht : IsTup s.heap t items) (hx : items[i]? = some x)
    (hQ : ∀ h', IsTupIter h' it t (i + 1) → Heap.SameBut it s.heap h' → Q x { s with heap := h' }) : wpAny (model prog w) A (Builtin.SmallTypes.nextOf (.ref it)) Q E s := by
  obtain ⟨o, ho, hc, hd⟩ := id hit
  obtain ⟨ol, hol, _, nl, hdl⟩ := ht
  unfold Builtin.SmallTypes.nextOf
  refine wpAny_bind (wpAny_callSpecial?_slot (name := Str.ofString "__next__") hit.typeIs PyProof.Rows.slot_tupleiter_next (wpAny_call_entry PyProof.Rows.slot_tupleiter_next hit.typeIs PyProof.Rows.entry_tupleiter_next ?_ (PyProof.Rows.args_tupleiter_next _)))
  show wpAny _ _ (field (.ref it) 0 >>= _) _ _ s
  refine wpAny_bind (wpAny_field ho hd (x := .ref t) rfl ?_)
  show wpAny _ _ (if (Value.ref t == Value.none) = true then _ else _) _ _ s
  rw [if_neg (show ¬ ((Value.ref t == Value.none) = true) from Bool.false_ne_true)]
  show wpAny _ _ (field (.ref it) 1 >>= _) _ _ s
  refine wpAny_bind (wpAny_field ho hd (x := .int i 0) rfl ?_)
  show wpAny _ _ (seqItems? (.ref t) >>= _) _ _ s
  refine wpAny_bind (wpAny_seqItems hol hdl ?_)
  simp only [Int.toNat_natCast, hx]
  refine wpAny_bind (wpAny_setField ho hd (by simp) (wpAny_pure ⟨x, rfl, wpAny_pure (hQ _ ?_ (Heap.SameBut.update ..))⟩))
  exact ⟨_, Heap.get?_update_self _ ho (Obj.isFreed_of_fields (Obj.data_mapFields hd _)), (Obj.cls_mapFields ..).trans hc, by
    rw [Obj.data_mapFields hd]; simp [rawInt]⟩
theorem nextOf_tup_end {it t : Addr} {i : Nat} {items : Array Value} {Q : Value → Shared → Prop} (hh : A.handled = none) (hit : IsTupIter s.heap it t i) (ht : IsTup s.heap t items) (hx : items[i]? = none)
    (hE : ∀ h' e, Heap.ExtBut it s.heap h' → (∃ o, h'.get? e = some o ∧ o.cls = .type "StopIteration") → E (.ref e) { s with heap := h' }) : wpAny (model prog w) A (Builtin.SmallTypes.nextOf (.ref it)) Q E s := by
  obtain ⟨o, ho, hc, hd⟩ := id hit
  obtain ⟨ol, hol, _, nl, hdl⟩ := ht
  unfold Builtin.SmallTypes.nextOf
  refine wpAny_bind (wpAny_callSpecial?_slot (name := Str.ofString "__next__") hit.typeIs PyProof.Rows.slot_tupleiter_next (wpAny_call_entry PyProof.Rows.slot_tupleiter_next hit.typeIs PyProof.Rows.entry_tupleiter_next ?_ (PyProof.Rows.args_tupleiter_next _)))
  show wpAny _ _ (field (.ref it) 0 >>= _) _ _ s
  refine wpAny_bind (wpAny_field ho hd (x := .ref t) rfl ?_)
  show wpAny _ _ (if (Value.ref t == Value.none) = true then _ else _) _ _ s
  rw [if_neg (show ¬ ((Value.ref t == Value.none) = true) from Bool.false_ne_true)]
  show wpAny _ _ (field (.ref it) 1 >>= _) _ _ s
  refine wpAny_bind (wpAny_field ho hd (x := .int i 0) rfl ?_)
  show wpAny _ _ (seqItems? (.ref t) >>= _) _ _ s
  refine wpAny_bind (wpAny_seqItems hol hdl ?_)
  simp only [Int.toNat_natCast, hx]
  refine wpAny_bind (wpAny_rule (wpAny_bind (wpAny_setField ho hd (by simp) ?_)))
  show wpAny _ _ (newExc (.type "StopIteration") [] >>= _) _ _ _
  refine wpAny_bind ?_
  simp only [newExc, newTuple]
  refine wpAny_bind (wpAny_newObj_type ?_ (by size_fits))
  refine wpAny_bind (m := firstArgMember _ _) (wpAny_of_eq (a := Value.none) (by first | rfl | (simp only [firstArgMember]; rfl)) ?_)
  refine wpAny_newObj_type ?_ (by size_fits)
  simp only [raiseNew]
  refine wpAny_bind (wpAny_handled ?_)
  rw [show A.in1.handled = none from hh]
  refine wpAny_bind (wpAny_pure (wpAny_throw ?_))
  exact hE _ _ (((Heap.SameBut.update ..).extBut.push _).push _) ⟨_, Heap.get?_push_size _ rfl, rfl⟩
end
theorem draws_tup {prog : Program} {w : World} {A : Around} (hh : A.handled = none) (it t : Addr) (hne : t ≠ it) (items : Array Value) :
    Draws prog w A it [it, t] items.size (fun i v => items[i]? = some v) (fun i h => IsTupIter h it t i ∧ IsTup h t items) where
  live := fun _ _ st => let ⟨o, ho, _⟩ := st.1; ⟨o, ho⟩
  frame := fun _ _ _ st hk => ⟨let ⟨o, ho, r⟩ := st.1; ⟨o, hk it (by simp) o ho, r⟩, let ⟨o, ho, r⟩ := st.2; ⟨o, hk t (by simp) o ho, r⟩⟩
  item := fun i s Q E hi st hQ => by
    refine nextOf_tup_item st.1 st.2 (x := items[i]) (by simp [hi]) fun h' hit' hs' => ?_
    exact hQ _ h' s.toks (by simp [hi]) ⟨hit', st.2.extBut hs'.extBut hne⟩ hs'
  done := fun s Q E st hE => nextOf_tup_end hh st.1 st.2 (by simp) hE
set_option maxHeartbeats 1000000 in
theorem meets_enumerate_newT (l : Addr) (items : Array Value) (n : Nat) (dct : Option Addr) (sl : Array (Option Value)) :
    Meets (Builtin.«enumerate.__new__» ⟨[.type "enumerate", .ref l], []⟩) (fun _ R s => s.heap.get? l = some { cls := .type "tuple", dict := dct, data := .seq items n, slots := sl } ∧
      R (.ok (.ret (.ref (s.heap.push { cls := .type "tuple_iterator", data := .fields #[.ref l, .int 0 0] }).objs.size)))
        { s with heap := (s.heap.push { cls := .type "tuple_iterator", data := .fields #[.ref l, .int 0 0] }).push { cls := .type "enumerate", data := .fields #[.none, .bool false, .ref s.heap.objs.size, rawInt 0, .none, .none] } }) :=
  .of_wp fun prog w A R s h => by
    obtain ⟨hp, g, d, tk, os⟩ := s; obtain ⟨hl, h⟩ := h
    have hsub := sub_enumerate
    have hL : IsTup (Shared.heap ⟨hp, g, d, tk, os⟩) l items := ⟨_, hl, rfl, n, rfl⟩
    wp_walk using AutoSeq1.wpAny_loadPart' hl
    refine wpAny_stack_any fun st => wpAny_pure ?_
    split
    · rename_i c _ _ _ _ _
      cases (c == Value.type "enumerate")
      · wp_walk using AutoSeq1.wpAny_loadPart' hl, PyProof.Rows.iter_tuple hL
        exact ⟨_, rfl, h⟩
      · wp_walk using AutoSeq1.wpAny_loadPart' hl, PyProof.Rows.iter_tuple hL
        exact ⟨_, rfl, h⟩
    · wp_walk using AutoSeq1.wpAny_loadPart' hl, PyProof.Rows.iter_tuple hL
      exact ⟨_, rfl, h⟩
section
variable {prog : Program} {w : World} {A : Around} {E : Value → Shared → Prop} {s : Shared}
theorem call_enumerate_tup {l : Addr} {items : Array Value} {Q : Value → Shared → Prop} (hL : IsTup s.heap l items)
    (h : ∀ h', IsEnum h' (s.heap.objs.size + 1) s.heap.objs.size 0 .none → IsTupIter h' s.heap.objs.size l 0 → h'.objs.size = s.heap.objs.size + 2 →
      (∀ b o, s.heap.get? b = some o → h'.get? b = some o) → Q (.ref (s.heap.objs.size + 1)) { s with heap := h' }) :
    wpAny (model prog w) A (call (.type "enumerate") [.ref l]) Q E s := by
  obtain ⟨⟨c, dct, dt, sl⟩, hl, hc, n, hd⟩ := hL
  replace hc : c = .type "tuple" := hc
  replace hd : dt = .seq items n := hd
  subst hc hd
  refine callType_new F.called_enumerate (by decide) (F.typeCall_enumerate_1 _) (F.newCall_enumerate_1 _) (fun obj => F.args_object_init_2 obj _) F.entry_enumerate_new
    (meets_enumerate_newT l items n dct sl) ⟨hl, ?_⟩
  have hz : (s.heap.push { cls := .type "tuple_iterator", data := .fields #[.ref l, .int 0 0] }).objs.size = s.heap.objs.size + 1 := Heap.size_push ..
  show _ ∧ _
  rw [hz]
  have he : IsEnum ((s.heap.push { cls := .type "tuple_iterator", data := .fields #[.ref l, .int 0 0] }).push
      { cls := .type "enumerate", data := .fields #[.none, .bool false, .ref s.heap.objs.size, rawInt 0, .none, .none] }) (s.heap.objs.size + 1) s.heap.objs.size 0 .none := by
    have := Heap.get?_push_size (s.heap.push { cls := .type "tuple_iterator", data := .fields #[.ref l, .int 0 0] })
      (o := { cls := .type "enumerate", data := .fields #[.none, .bool false, .ref s.heap.objs.size, rawInt 0, .none, .none] }) rfl
    rw [hz] at this; exact this
  refine ⟨⟨_, he, rfl⟩, h _ he ⟨_, Heap.get?_push_of_some _ (Heap.get?_push_size _ rfl), rfl, rfl⟩ (by rw [Heap.size_push, hz]) fun b o x => Heap.get?_push_of_some _ (Heap.get?_push_of_some _ x)⟩
end
end Z
end Mine
end
section
open PySem PySem.W PyProof.Rows PySem.Calls
set_option maxRecDepth 100000
namespace Mine
namespace Z
/-- a list (true) or a tuple (false) -/
def Th (h : Heap) (k : Bool) (a : Addr) (vs : List Value) : Prop := if k then h.IsList a vs.toArray else IsTup h a vs.toArray
theorem Th.keeps {h h' : Heap} {k : Bool} {a : Addr} {vs : List Value} (t : Th h k a vs) (e : ∀ b o, h.get? b = some o → h'.get? b = some o) : Th h' k a vs := by
  cases k with
  | true => obtain ⟨o, ho, r⟩ := t; exact ⟨o, e _ _ ho, r⟩
  | false => obtain ⟨o, ho, r⟩ := t; exact ⟨o, e _ _ ho, r⟩
theorem Th.some {h : Heap} {k : Bool} {a : Addr} {vs : List Value} (t : Th h k a vs) : (h.get? a).isSome = true := by
  cases k with
  | true => obtain ⟨o, ho, r⟩ := t; rw [ho]; rfl
  | false => obtain ⟨o, ho, r⟩ := t; rw [ho]; rfl
/-- values that say the same in every heap -/
def Says (vs : List Value) (ds : List D) : Prop := ∀ ok h, RepAll ok h vs ds
theorem Says.get {vs : List Value} {ds : List D} (r : Says vs ds) {i : Nat} {v : Value} {d : D} (hv : vs[i]? = some v) (hd : ds[i]? = some d) : ∀ ok h, Rep ok h v d := fun ok h => by
  obtain ⟨u, e, q⟩ := (r ok h).get hd
  rw [e] at hv; cases hv; exact q
theorem Says.length {vs : List Value} {ds : List D} (r : Says vs ds) : vs.length = ds.length := (r (fun _ => True) {}).length
section
variable {G : Gr} {n : Nat} {env : Env} {σ : St} {sc : Scope} {A : Around} {okc : Addr → Prop} {Res : Heap → Prop} {ds : List D}
theorem ItrH.of_walksT {elts : List Expr} {k : Nat} {pos : Pos} {I : Addr} {es : List D} {fpl wrl : List Addr} {m : Nat} {Pt : Nat → Array Value → Prop} {Stt : Nat → Heap → Prop} {Mid : Nat → Addr → Heap → Prop}
    (W : ∀ A' : Around, A'.handled = none → WalksT G.prog G.w A' I fpl wrl m Pt Stt Mid) (hm : m = es.length)
    (hfp : ∀ b ∈ fpl, b ∈ wrl ∨ (G.base.get? b).isSome = true) (hoff : ∀ b ∈ wrl, G.base.get? b = none) (hobj : ∀ i h, Stt i h → ∀ b ∈ wrl, ∃ o T, h.get? b = some o ∧ o.cls = .type T ∧ isDict o.data = false ∧ nodeType T = false)
    (hP : ∀ i vals d, es[i]? = some d → Pt i vals → ∃ es, d = .tuple es ∧ Says vals.toList es) :
    ItrH G okc (.Tuple elts k pos) I es (· ∈ wrl) (fun i h => Stt i h ∧ G.base.StaysIn h) where
  itr := fun A' hA => by
    have W := W A' hA
    have stays : ∀ {s s' : Shared}, G.base.StaysIn s.heap → MvI G.base (· ∈ wrl) (fun _ => False) s s' → G.base.StaysIn s'.heap := fun {s s'} kb mi b o e => by
      obtain ⟨o', e', _, _, k'⟩ := mi.ext b o (fun z => by rw [hoff b z] at e; cases e) (kb b o e)
      rw [e', k' (.inl (by rw [e]; rfl))]
    refine ⟨fun i s a hs ha => ?_, fun i d s E ok' hd hs kb hok hfr => ?_, fun s E hs kb => W.done s _ E (hm ▸ hs.1) fun h' tk hk => ⟨rfl, .of_keepL hk⟩⟩
    · obtain ⟨o, T, e, c, _, hT⟩ := hobj i _ hs.1 a ha
      exact ⟨not_node e c hT, by rw [e]; rfl⟩
    · have hlt : i < m := by rw [hm]; exact (List.getElem?_eq_some_iff.mp hd).1
      refine W.item i s _ E hlt hs.1 fun T vals h' tk hp hT ht hmid hk => ?_
      refine ⟨_, rfl, W.go elts k pos i T _ _ E hmid fun h'' hst hk' => ?_⟩
      have hTw := W.apart i T h' hmid
      have mi : MvI G.base (· ∈ wrl) (fun _ => False) s { s with heap := h'', toks := tk } := .of_keepL fun b o w e => hk' b o w (hk b o w e)
      obtain ⟨es', rfl, res⟩ := hP i vals d hd hp
      have hTf : s.heap.get? T = none := by
        cases q : s.heap.get? T with
        | none => rfl
        | some o => exact absurd (Heap.lt_size q) (Nat.not_lt.mpr hT)
      refine ⟨.tuple (hfr T hTf) ?_ (res _ _), ⟨hst, stays kb mi⟩, mi⟩
      obtain ⟨o, e, c, n', dd⟩ := ht
      exact ⟨o, hk' T o hTw e, c, n', by simpa using dd⟩
  frame := fun i h h' V hs kb' x hf hn => by
    refine ⟨(W callerA rfl).frame i h h' hs.1 fun b hb o e => ?_, kb'⟩
    rcases hfp b hb with q | q
    · obtain ⟨o₁, T, e₁, _, d₁, _⟩ := hobj i _ hs.1 b q
      rw [e] at e₁; cases e₁
      obtain ⟨o', e', _, _, k'⟩ := x b o (hf b q) e
      rw [e', k' (.inr d₁)]
    · obtain ⟨ob, hb'⟩ := Option.isSome_iff_exists.mp q
      rw [hs.2 b ob hb'] at e; cases e
      exact kb' b _ hb'
theorem EvIA.enumT {e : Expr} {kd : Bool} {a : Addr} {vs : List Value} {p pos tp : Pos} {ts : List Expr} {k : Nat} (hk : env.kindOf "enumerate" = some .globalImplicit) (hg : G.mg "enumerate" = none) (h : Ev G n env σ e (.raw (.ref a))) (hT : Th G.base kd a vs) (hs : Says vs ds)
    (hns : noStar [e] = true := by rfl) (hplain : (backTo pos (starEach [e] env)).any (·.1) = false := by rfl) (he : starEach [e] env = (false, eval e env) :: starEach [] env := by rfl) :
    EvIA G n env σ okc Res (.Call (.Name "enumerate" p) [e] [] pos) (.Tuple ts k tp) (enumL ds) := fun ok A s E r kb i _ => by
  have hb : Ev G n env σ (.Name "enumerate" p) (.raw (.type "enumerate")) := Ev.builtin hk hg boot_enumerate
  refine Call_ (wpAny_mono (hb ok A s E r kb i) (fun v s₁ p₁ => ?_) fun _ _ x => x)
  obtain ⟨st, rp⟩ := p₁
  cases rp
  have kb₁ := st.ext.base kb
  refine callWith_callee (G := G) (.type _) hplain (wpAny_mono ((EvL.cons h .nil he : EvL G n env σ [e] [.raw (.ref a)]) ok A s₁ E pos r kb₁ (i.ext st.ext)) (fun vs s₂ p₂ => ⟨p₂.1.ext.base kb₁, ?_⟩) fun _ _ x => x) hns
  obtain ⟨st₂, rs⟩ := p₂
  cases rs with
  | cons ra rs =>
    cases rs
    cases ra
    have st12 := st.trans st₂
    have kb₂ := st₂.ext.base kb₁
    have hal : a < s₂.heap.objs.size := by
      obtain ⟨o, ho⟩ := Option.isSome_iff_exists.mp (hT.keeps kb₂).some
      exact Heap.lt_size ho
    have hne : s₂.heap.objs.size + 1 ≠ s₂.heap.objs.size := Nat.succ_ne_self _
    have hef : s₂.heap.objs.size + 1 ∉ [s₂.heap.objs.size, a] := fun z => by
      simp only [List.mem_cons, List.not_mem_nil, or_false] at z
      rcases z with z | z
      · exact hne z
      · exact absurd z (Nat.ne_of_gt (Nat.lt_succ_of_lt hal))
    have hf0 : ∀ b, s₂.heap.objs.size ≤ b → s.heap.get? b = none := fun b hb => by
      cases q : s₂.heap.get? b with
      | none => exact st12.ext.none q
      | some o => exact absurd (Heap.lt_size q) (Nat.not_lt.mpr hb)
    have hb0 : ∀ b, s₂.heap.objs.size ≤ b → G.base.get? b = none := fun b hb => by
      cases q : G.base.get? b with
      | none => rfl
      | some o => exact absurd (Heap.lt_size (kb₂ b o q)) (Nat.not_lt.mpr hb)
    have hvl := hs.length
    have Pf : ∀ (j : Nat) (vals : Array Value) (d : D), (enumL ds)[j]? = some d → (∃ t x, vs.toArray[j]? = some x ∧ vals = #[.int j t, x]) → ∃ es, d = .tuple es ∧ Says vals.toList es := by
      rintro j vals d hd ⟨tk, y, hy, rfl⟩
      obtain ⟨e', he2, rfl⟩ := enumL_get.mp hd
      have hy' : vs[j]? = some y := by simpa using hy
      exact ⟨_, rfl, fun ok h => .cons (.int _ _) (.cons (hs.get hy' he2 ok h) .nil)⟩
    have fin : ∀ (h' : Heap) (TI : String) (Sti : Nat → Heap → Prop), nodeType TI = false → (∀ A' : Around, A'.handled = none → Draws G.prog G.w A'.in1 s₂.heap.objs.size [s₂.heap.objs.size, a] vs.toArray.size (fun i v => vs.toArray[i]? = some v) Sti) →
        (∀ i h, Sti i h → ∃ o, h.get? s₂.heap.objs.size = some o ∧ o.cls = .type TI ∧ isDict o.data = false) → IsEnum h' (s₂.heap.objs.size + 1) s₂.heap.objs.size 0 .none → Sti 0 h' → (∀ b o, s₂.heap.get? b = some o → h'.get? b = some o) →
        wpAny G.M A (pyIter (.ref (s₂.heap.objs.size + 1))) (fun it s' => Stp G.base s s' ∧ ∃ I fp Sx, it = .ref I ∧ ItrH G okc (.Tuple ts k tp) I (enumL ds) fp Sx ∧ Sx 0 s'.heap ∧ ∀ a, fp a → s.heap.get? a = none) E { s₂ with heap := h' } := by
      intro h' TI Sti hTI D hSt he' hit hkeep
      refine wpAny_pyIter_enum he' ?_
      have st₃ : Stp G.base s₂ { s₂ with heap := h' } := ⟨.of_stays hkeep, rfl, .refl⟩
      have W := fun A' hA => WalksT.enumerateD (A := A') (D A' hA) (s₂.heap.objs.size + 1) hne hef (by simp)
      refine ⟨st12.trans st₃, _, _, _, rfl, ItrH.of_walksT W (by simp [enumL_length, hvl]) (fun b hb => ?_) (fun b hb => ?_) ?_ ?_, ⟨⟨⟨_, he'⟩, hit⟩, st₃.ext.base kb₂⟩, ?_⟩
      · simp only [List.mem_cons, List.not_mem_nil, or_false] at hb ⊢
        rcases hb with rfl | rfl | rfl
        · exact .inl (.inl rfl)
        · exact .inl (.inr rfl)
        · exact .inr hT.some
      · simp only [List.mem_cons, List.not_mem_nil, or_false] at hb
        rcases hb with rfl | rfl
        · exact hb0 _ (by omega)
        · exact hb0 _ (by omega)
      · rintro j h ⟨⟨old, e1⟩, e2⟩ b hb
        simp only [List.mem_cons, List.not_mem_nil, or_false] at hb
        rcases hb with rfl | rfl
        · exact ⟨_, _, e1, rfl, rfl, rfl⟩
        · obtain ⟨o, e2, c2, d2⟩ := hSt _ _ e2
          exact ⟨o, _, e2, c2, d2, hTI⟩
      · rintro j vals d hd ⟨tk, y, hy, rfl⟩
        exact Pf j _ d hd ⟨tk, y, hy, rfl⟩
      · intro b hb
        refine hf0 b ?_
        simp only [List.mem_cons, List.not_mem_nil, or_false] at hb
        rcases hb with rfl | rfl <;> omega
    cases kd with
    | true =>
      have hL : s₂.heap.IsList a vs.toArray := hT.keeps kb₂
      refine call_enumerate_list hL fun h' he' hit hsz hkeep => ?_
      refine fin h' "list_iterator" _ rfl (fun A' hA => Draws.list (by exact hA) _ a (Nat.ne_of_lt hal) _) ?_ he' ⟨hit, hT.keeps fun b o e => hkeep b o (kb₂ b o e)⟩ hkeep
      rintro j h ⟨⟨o, e, c, d⟩, _⟩
      exact ⟨o, e, c, by rw [d]; rfl⟩
    | false =>
      have hL : IsTup s₂.heap a vs.toArray := hT.keeps kb₂
      refine call_enumerate_tup hL fun h' he' hit hsz hkeep => ?_
      refine fin h' "tuple_iterator" _ rfl (fun A' hA => draws_tup (by exact hA) _ a (Nat.ne_of_lt hal) _) ?_ he' ⟨hit, hT.keeps fun b o e => hkeep b o (kb₂ b o e)⟩ hkeep
      rintro j h ⟨⟨o, e, c, d⟩, _⟩
      exact ⟨o, e, c, by rw [d]; rfl⟩
end
end Z
end Mine
end
section
open PySem PySem.W PyProof.Rows PySem.Calls
set_option maxRecDepth 100000
namespace Mine
namespace Z
section
variable {G : Gr} {n : Nat} {env : Env} {σ : St} {sc : Scope} {A : Around} {okc : Addr → Prop} {g : Nat} {c : Code} {fs : List PySem.Frame} {FR : Addr → Prop} {Res : Heap → Prop} {ds : List D} {l : List Env} {rz : Rz}
  {K : Flow → Sem Fin} {H : Value → Sem Fin} {gd : Bool → Bool} {lv : List Value → List Value}
theorem Gs.fin {t : Sem Fin} (ht : t = leafOf (.ok (.ret .none))) : Gs G A l none okc g env c [] FR Res σ t [] := fun s₁ F₁ F s r => by
  subst ht
  exact .fin _ ⟨r.mv, r.gin, rfl⟩
theorem gsH_top {X : String} {msg : Str} {K' : Flow → Sem Fin} (hov : ∀ l, A.frames = some l → (A.over c []).frames = some (env :: l)) (hfl : env.frame = some env.locals) : GsH G A l okc g env c [] FR Res X msg (fun x => ((leaving env x).bind fun _ => .raise x).wrap K' .raise id id) := by
  intro s₁ F₁ F σ s e w s' r hw ex
  have K := r.over hov hfl
  show Sg _ _ _ _ (((leaving env (.ref e)).bind fun _ => .raise (.ref e)).wrap K' .raise id id) _ _
  rw [Sem.bind_eq_wrap, Sem.wrap_wrap]
  refine .wrap (ex.leave K (fun L z => ?_) fun s'' ex' => ?_)
  · rcases hw with hw | hw | hw <;> rw [hw] at z <;> cases z
    exact hfl
  show Sg _ _ _ _ (leafOf (.error (.ref e))) _ _
  exact .fin _ ⟨s, e, rfl, r.mv, ex'⟩
/-- the head of a for over a call of a generator of one plain parameter -/
theorem EvIZ.gen1 {d : DefRec} {a : Addr} {d1 : D} {x : Str} {e target : Expr} {p pos : Pos} (F : FnAt G d a) (hkn : env.kindOf d.name = some .globalImplicit) (h : Ev G (n + 1) env σ e d1) (hat : Atomic d1 = true) (hrz : ∀ X msg, rz = some (X, msg) → isSubtype (.type X) (.type "StopIteration") = pure false)
    (body : ∀ env' A' okc g KF HF, FEnv env' d.scope → Lp G n A' env' okc (fun _ => False) (fun _ => True) (.func d.body env') [] → (∀ X msg, GsH G A' l okc g env' (.func d.body env') [] (fun _ => False) (fun _ => True) X msg HF) → KF .next = leafOf (.ok (.ret .none)) →
      Gs G A' l rz okc g env' (.func d.body env') [] (fun _ => False) (fun _ => True) [(x, .val d1)] ((execs d.body env').wrap KF HF id id) ds)
    (hx : d.params.args.map (·.arg) = [x] := by rfl) (hb : ∀ pm code doc v, bindArgs (docDef d.name d.params d.body d.scope pm code doc) ⟨[v], []⟩ = pure [(x, v)] := by intros; rfl)
    (hloc : d.scope.names.lookup x = some .local := by rfl) (hcell : ∀ y ∈ d.scope.names, y.2 ≠ .cell := by decide)
    (hco : d.scope.isCoroutine = false := by rfl) (hgen : d.scope.isGenerator = true := by rfl) (hk : d.scope.kind = .function := by rfl) (hdn : (d.name == ("__debug__" : Str)) = false := by decide)
    (hns : noStar [e] = true := by rfl) (hplain : (backTo pos (starEach [e] env)).any (·.1) = false := by rfl) (he : starEach [e] env = (false, eval e env) :: starEach [] env := by rfl) :
    EvIZ G (n + 1) env l σ (.Call (.Name d.name p) [e] [] pos) target ds rz := fun ok A s E r kb i hfr => by
  refine Call_ (wpAny_mono ((fn_ev F hkn hdn : Ev G (n + 1) env σ (.Name d.name p) (.raw (.ref a))) ok A s E r kb i) (fun v s₁ p₁ => ?_) fun _ _ x => x)
  obtain ⟨st, rp⟩ := p₁
  cases rp
  have kb₁ := st.ext.base kb
  refine callWith_callee (G := G) F.callee hplain (wpAny_mono ((EvL.cons h .nil he : EvL G (n + 1) env σ [e] [d1]) ok A s₁ E pos r kb₁ (i.ext st.ext)) (fun vs s₂ p₂ => ⟨p₂.1.ext.base kb₁, ?_⟩) fun _ _ x => x) hns
  obtain ⟨st₂, rs⟩ := p₂
  have st12 := st.trans st₂
  have kb₂ := st₂.ext.base kb₁
  cases rs with
  | @cons v _ _ _ ra rs =>
    cases rs
    obtain ⟨o, pm, code, doc, ho, hd, hcd⟩ := F.obj
    refine wpAny_call (codeAny_call_generator (fd := docDef d.name d.params d.body d.scope pm code doc) (body := d.body) (by have := r.depth; omega) (kb₂ _ _ ho) hd hco hgen rfl (hcd.keeps kb₂) ?_)
    refine wpAny_of_eq (hb pm code doc v) ?_
    refine wpAny_newFunctionEnv hcell (fun y hy => by rw [List.mem_singleton.mp hy]; exact hloc) (fun h' hns' hsb => ?_) hk
    dsimp only at hns' hsb ⊢
    generalize henv : newEnv _ _ _ _ _ _ _ _ _ = env'
    have hsc : env'.scope = d.scope := by rw [← henv]; rfl
    have hcs : env'.cells = [] := by rw [← henv]; rfl
    have hlo : env'.locals = s₂.heap.objs.size := by rw [← henv]; rfl
    have hfl : env'.frame = some env'.locals := by rw [← henv]; rfl
    have FE : FEnv env' d.scope := ⟨hsc, fun y hy => absurd (mem_of_lookup hy) fun q => hcell _ q rfl⟩
    have keep : ∀ b o, s₂.heap.get? b = some o → h'.get? b = some o := fun b o e => hsb.extBut b o (Nat.ne_of_lt (Heap.lt_size e)) (Heap.get?_push_of_some _ e)
    refine ⟨G.nolimit.keeps fun b o e => keep b o (kb₂ b o e), ?_⟩
    generalize hI : h'.objs.size = I
    have hsz : I = s₂.heap.objs.size + 1 := by rw [← hI, hsb.1, Heap.size_push]
    generalize hs3 : ({ heap := _, gens := _, drawn := _, toks := _, os := _ } : Shared) = s₃
    have hgens : s₃.gens = s₂.gens.push (.fresh (.func d.body env')) := by rw [← hs3]
    have hheap : ∃ o, s₃.heap = h'.push o ∧ o.cls = .type "generator" ∧ (∃ nm qn, o.data = .fields #[.int s₂.gens.size 0, nm, qn]) ∧ o.slots = #[] := by rw [← hs3]; exact ⟨_, rfl, rfl, ⟨_, _, rfl⟩, rfl⟩
    have hos : s₃.os = s₂.os := by rw [← hs3]
    clear hs3
    obtain ⟨og, hheap, hgc, ⟨nm, qn, hgd⟩, hgs⟩ := hheap
    have hgen' : s₃.heap.IsGen I s₂.gens.size := ⟨og, nm, qn, by rw [hheap, ← hI]; exact Heap.get?_push_size _ (by rw [Obj.isFreed_of_fields hgd]), hgc, hgd, hgs⟩
    have keep₃ : ∀ b o, s₂.heap.get? b = some o → s₃.heap.get? b = some o := fun b o e => by rw [hheap]; exact Heap.get?_push_of_some _ (keep b o e)
    have st₃ : Stp G.base s₂ s₃ := ⟨.of_stays keep₃, hos, ⟨fun j x e => by
      have hlt := (Array.getElem?_eq_some_iff.mp e).1
      rw [hgens, Array.getElem?_push, if_neg (Nat.ne_of_lt hlt)]
      exact e, fun q x hx => by
      rw [hgens] at hx
      rcases Array.mem_push.mp hx with hx | rfl
      · exact q x hx
      · rfl⟩⟩
    have hL₂ : ∀ b, s₂.heap.objs.size ≤ b → s.heap.get? b = none := fun b hb => by
      cases q : s₂.heap.get? b with
      | none => exact st12.ext.none q
      | some o => exact absurd (Heap.lt_size q) (Nat.not_lt.mpr hb)
    have hfrw : ∀ b, FrW env' b → b = s₂.heap.objs.size := fun b w => by
      rcases w with w | ⟨y, w⟩
      · exact w.trans hlo
      · rw [hcs] at w; cases w
    have hns₃ : s₃.heap.Ns s₂.heap.objs.size (fun y => [(x, v)].reverse.lookup y) := hns'.keeps fun b o e => by rw [hheap]; exact Heap.get?_push_of_some _ e
    have inv₃ : Inv G.base (fun _ => True) env' [(x, .val d1)] s₃.heap := by
      refine ⟨⟨(by rw [hsc]; exact hk), ⟨_, (by rw [hlo]; exact hns₃)⟩, fun y c l => (by rw [hcs] at l; cases l), (by rw [hcs]; exact List.Pairwise.nil), fun y c l => (by rw [hcs] at l; cases l), (by rw [← henv]; rfl), (by rw [← henv]; rfl)⟩, fun b w => ?_, fun _ _ => trivial, fun y dd l => ?_, fun y b es l => ?_, fun b w => (nomatch w), List.nodup_nil⟩
      · have := hfrw b (w.elim id fun z => nomatch z)
        cases q : G.base.get? b with
        | none => rfl
        | some o => exact absurd (Heap.lt_size (kb₂ b o q)) (by rw [this]; exact Nat.lt_irrefl _)
      · rw [List.lookup_cons] at l
        cases q : y == x with
        | false => rw [q] at l; cases l
        | true =>
          rw [q] at l; cases l
          have q := beq_iff_eq.mp q
          subst q
          exact ⟨v, .inl ⟨FE.kind hloc, _, by rw [hlo]; exact hns₃, by simp⟩, ra.atomic hat⟩
      · rw [List.lookup_cons] at l
        cases q : y == x with
        | false => rw [q] at l; cases l
        | true => rw [q] at l; cases l
    have hIL : ¬ FrW env' I := fun w => by have h1 := hfrw I w; rw [hsz] at h1; exact Nat.succ_ne_self _ h1
    refine wpAny_pyIter_gen hgen' ⟨st12.trans st₃, I, _, _, _, rfl, ItrZ.gen (C := FrW env') (g := s₂.gens.size) r.handled (by have := r.depth; omega) hrz, ⟨FrW env', rfl, fun _ w => w, hIL, hgen', fun b w => ?_, .fresh (.func d.body env'), ?_, ?_⟩, fun b hb' => ?_, fun g' hg' => ?_⟩
    · rw [hfrw b w]
      refine ⟨ns_not_node hns₃, ?_⟩
      obtain ⟨o, _, _, e, _⟩ := hns₃; rw [e]; rfl
    · rw [hgens]; simp
    · refine genGo_iff.mpr fun s₄ hc hb₄ hg₄ hsk hap => ?_
      obtain ⟨V, hx4, hdom4, hF4, hok4⟩ := hc
      show Sg G.M A.in1 _ _ (.point [] fun _ => ((execs d.body env').onRaise (leaving env')) >>= _) [] _
      refine .mark ?_
      rw [Sem.onRaise_eq_wrap, Sem.bind_eq_wrap', Sem.wrap_wrap]
      have hp : Plain [(x, .val d1)] = true := by show (Atomic d1 && true) = true; rw [hat]; rfl
      have hov : ∀ l, A.in1.frames = some l → (A.in1.over (.func d.body env') []).frames = some (env' :: l) := fun l h => by
        show pushEnvs [env'] (pushEnvs [] A.in1.frames) = _
        rw [h]; rfl
      refine body env' A.in1 _ s₂.gens.size _ _ FE ⟨hov, hfl, room_gen r, fun _ _ _ _ _ _ _ _ => trivial, rfl, rfl⟩ (fun X msg => gsH_top hov hfl) rfl s₄ (FrW env') (FrW env') _ ⟨hb₄, hb₄, inv₃.wake hp hx4 hF4 fun b e => .inr (.inl e), ⟨fun b o _ e => ⟨o, e, rfl, rfl, fun _ => rfl⟩, fun _ _ e => e, rfl, fun _ _ _ e => e, fun z => z⟩, fun _ w => w, fun _ w => .inl w, fun _ w => w, fun b w => inv₃.off b (.inl w), fun b w => ⟨fun nd => ?_, ?_⟩, nofun, trivial, rfl, ?_, hsk, hap⟩
      · rw [hfrw b w] at nd
        exact ns_not_node hns₃ (node_back hx4 (hF4 _ (.inl hlo.symm)) (by obtain ⟨o, _, _, e, _⟩ := hns₃; rw [e]; rfl) nd)
      · cases q : s₄.heap.get? b with
        | some _ => exact (by show (s₄.heap.get? b).isSome = true; rw [q]; rfl)
        | none =>
          have := hdom4 b q
          rw [hfrw b w] at this
          obtain ⟨o, _, _, e, _⟩ := hns₃; rw [e] at this; cases this
      · rw [setGen_get hg₄]; rfl
    · rcases hb' with w | rfl
      · rw [hfrw b w]; exact hL₂ _ (Nat.le_refl _)
      · exact hL₂ _ (by omega)
    · subst hg'
      cases q : s.gens[s₂.gens.size]? with
      | none => rfl
      | some y =>
        have := st12.gens.keep _ _ q
        exact absurd (Array.getElem?_eq_some_iff.mp this).1 (Nat.lt_irrefl _)
end
end Z
end Mine
end
section
open PySem PySem.W PyProof.Rows PySem.Calls
set_option maxRecDepth 100000
namespace Mine
namespace Z
section
variable {G : Gr} {n : Nat} {env : Env} {σ : St} {l : List Env} {rz : Rz}
inductive FzI (G : Gr) (A : Around) (env : Env) (l : List Env) (σ : St) (ok : Addr → Prop) (J : Nat → St → Prop) (Sx : Nat → (Addr → Prop) → Shared → Prop) (F₀ : Addr → Prop) (len : Nat) (s s₂ : Shared) (m : Nat) (s' : Shared) : Prop
  | mk (j : Nat) (σ₁ : St) (F : Addr → Prop) (hj : j ≤ len) (hm : m = len + 1 - j) (hJ : J j σ₁) (hSx : Sx j F s') (inv : Inv G.base ok env σ₁ s'.heap) (mv : Mv G.base (Wr env σ) s s') (hk : G.base.StaysIn s'.heap) (hq : HS G.base env l A s'.heap)
    (how : ∀ a ∈ owned σ₁, a ∈ owned σ ∨ s₂.heap.get? a = none) (hdom : ∀ b, s'.heap.get? b = none → s₂.heap.get? b = none) (hF : ∀ a, F a → s.heap.get? a = none) (hFo : ∀ a, F a → a ∉ owned σ₁) (hFs : ∀ a, F a → F₀ a ∨ s₂.heap.get? a = none) : FzI G A env l σ ok J Sx F₀ len s s₂ m s'
def FinZ (G : Gr) (A : Around) (env : Env) (l : List Env) (σ : St) (ok : Addr → Prop) (J : St → Prop) (rz : Rz) (Q : Flow → Shared → Prop) (E : Value → Shared → Prop) (s : Shared) : Prop := match rz with
  | none => ∀ s', After G env σ ok s (fun fl σ' => fl = .next ∧ J σ') .next s' → Q .next s'
  | some (X, msg) => ∀ x s', RB G env (HS G.base env l) σ X msg A s x s' → E x s'
theorem loopZ {target iter : Expr} {body : List Stmt} {pos : Pos} {ds : List D} {f : D → St → St} {ok : Addr → Prop} {A : Around} {s : Shared} {Q : Flow → Shared → Prop} {E : Value → Shared → Prop} (hi : EvIZ G n env (env :: l) σ iter target ds rz) (ht : ∀ d ∈ ds, AssD G n env target d (f d)) (J : Nat → St → Prop) (h0 : J 0 σ)
    (turn : ∀ i d σ₁, ds[i]? = some d → J i σ₁ → Ex G n env (f d σ₁) body fun fl σ₂ => fl = .next ∧ J (i + 1) σ₂)
    (hq0 : HS G.base env l A s.heap) (r : Room n A) (k : G.base.StaysIn s.heap) (i : Inv G.base ok env σ s.heap) (fin : FinZ G A env l σ ok (J ds.length) rz Q E s)
    (hs : ∀ x, foldedSetIterable iter env x = pure x := by intro _; rfl) : wpAny G.M A (exec (.For target iter body [] pos) env) Q E s := by
  have R : Rd G.base env (fpS l) (HS G.base env l) := rdS
  refine wpAny_For (wpAny_mono (hi ok A s _ r k i hq0.1) (fun x s₁ p₁ => wpAny_mono p₁ (fun it s₂ p₂ => ?_) fun _ _ x => x) fun _ _ x => x) hs
  obtain ⟨st, I, wg, Sx, F₀, rfl, W, hst, hF₀, hwg⟩ := p₂
  have i₂ := i.ext st.ext
  refine codeAny_forLoop_any (FzI G A env l σ ok J Sx F₀ ds.length s s₂) ?_ (ds.length + 1)
    ⟨0, σ, F₀, Nat.zero_le _, rfl, h0, hst, i₂, st.mv, st.ext.base k, R.ext st.ext hq0, fun a w => .inl w, fun _ e => e, hF₀, fun a q w => fresh_not_wr i (hF₀ a q) (.inr w), fun a q => .inl q⟩
  rintro m s' ⟨j, σ₁, F, hj, rfl, hJ, hSx, hinv, hmv, hk, hq, how, hdom, hF, hFo, hFs⟩
  have hfpw : ∀ a, F a → ¬ Wr env σ₁ a := fun a q w => by
    rcases w with w | w
    · exact fresh_not_wr i (hF a q) (.inl w)
    · exact hFo a q w
  have hfpS : ∀ a, F a → ¬ fpS l a := fun a q w => by
    have := (R.apart A _ hq0 i.frame a w).1
    rw [hF a q] at this; cases this
  have hok1 : ∀ a, (okO ok σ a ∧ (s₂.heap.get? a).isSome = true) → okO ok σ₁ a := fun a q => ⟨q.1.1, fun w => (how a w).elim q.1.2 fun z => by rw [z] at q; cases q.2⟩
  have hK : Stk G.base s'.heap A (env :: l) := hq.stk hinv.frame (hinv.off _ (.inl (.inl rfl)))
  have hap : Apt (env :: l) F := fun e he L hL z => by
    rcases List.mem_cons.mp he with q | q
    · subst q
      rw [hq0.2.1] at hL; cases hL
      exact hfpw _ z (.inl (.inl rfl))
    · exact hfpS L z ⟨e, q, hL⟩
  have hkeep : ∀ {s₄ : Shared} {F : Addr → Prop}, (∀ a, F a → ¬ fpS l a) → MvI G.base F wg s' s₄ → HS G.base env l A s₄.heap := fun {s₄ F} hF mi => R.keep A _ _ hq fun b hb o e => mi.ext b o (fun z => hF b z hb) e
  by_cases hlt : j < ds.length
  · have hd : ds[j]? = some ds[j] := List.getElem?_eq_getElem hlt
    refine wpAny_mono (W.item j F ds[j] s' _ (okO ok σ₁) hd hSx hk hK hap hok1 (fun a q => ⟨i.fresh a (hF a q), hFo a q⟩) hinv.freshO) (fun r' s₃ q => ?_) fun _ _ x => x
    obtain ⟨v, rfl, q⟩ := q
    refine wpAny_mono q (fun _ s₄ q => ?_) fun _ _ x => x
    obtain ⟨rp, mi, F', hSx', hdn⟩ := q
    have inv₄ := hinv.mvI mi hfpw (fun a w => (W.node j F s' a hSx w).1) fun b w => i.fresh b (hF b w)
    have mv₄ := MvI.after hmv mi (fun a w => hF a w) hwg
    have hk₄ := mv₄.base k i.off
    have hq₄ := hkeep hfpS mi
    have hF'0 : ∀ a, F' a → s.heap.get? a = none := fun a q => (hdn a q).elim (hF a) fun z => hmv.dom a z
    have hF'o : ∀ a, F' a → a ∉ owned σ₁ := fun a q w => (hdn a q).elim (fun z => hFo a z w) fun z => by
      obtain ⟨vs, l⟩ := hinv.there a w; have := l.some; rw [z] at this; cases this
    have hF'w : ∀ a, F' a → ¬ Wr env σ₁ a := fun a q w => by
      rcases w with w | w
      · exact fresh_not_wr i (hF'0 a q) (.inl w)
      · exact hF'o a q w
    refine wpAny_mono (ht ds[j] (List.getElem_mem hlt) σ₁ ok A s₄ _ v r hk₄ inv₄ rp) (fun _ s₅ q => ?_) fun _ _ x => x
    obtain ⟨inv₅, mv₅, ow₅⟩ := q
    have hq₅ : HS G.base env l A s₅.heap := R.mv inv₄ mv₅ hq₄
    have mv₅' : Mv G.base (Wr env σ) s s₅ := mv₄.trans mv₅ fun a w => by
      rcases w with w | w
      · exact .inl (.inl w)
      · exact (how a w).imp .inr fun z => st.ext.none z
    have hk₅ := mv₅'.base k i.off
    have hSx₅ : Sx (j + 1) F' s₅ := W.frame (j + 1) F' s₄ s₅ _ hSx' mv₅ (fun a q => hF'w a q) fun a q nd w => by
      rcases w with w | w
      · exact node_not_frame inv₄.frame nd w
      · exact (hok1 a q).2 w
    refine wpAny_mono (turn j ds[j] σ₁ hd hJ ok A s₅ _ r hk₅ inv₅) (fun fl s₆ q => ?_) fun _ _ x => x
    obtain ⟨fl', σ₂, ⟨rfl, q⟩, fi, inv₆, mv₆, hk₆, ow₆⟩ := q
    have mv₆' : Mv G.base (Wr env σ) s s₆ := mv₅'.trans mv₆ fun a w => by
      rcases w with w | w
      · exact .inl (.inl w)
      · exact (how a (ow₅ a w)).imp .inr fun z => st.ext.none z
    have dom₅ : ∀ b, s₅.heap.get? b = none → s₂.heap.get? b = none := fun b e => by
      have e4 := mv₅.dom b e
      by_cases z : F b
      · rcases hFs b z with z | z
        · have := (W.node _ _ _ b hSx' (W.core _ _ _ hSx' b z)).2; rw [e4] at this; cases this
        · exact z
      · exact hdom b (mi.dom b z e4)
    have hFs' : ∀ a, F' a → F₀ a ∨ s₂.heap.get? a = none := fun a q => (hdn a q).elim (hFs a) fun z => .inr (hdom a z)
    have how₆ : ∀ a ∈ owned σ₂, a ∈ owned σ ∨ s₂.heap.get? a = none := fun a w => by
      rcases ow₆ a w with w | w
      · exact how a (ow₅ a w)
      · exact .inr (dom₅ a w)
    have hFo₆ : ∀ a, F' a → a ∉ owned σ₂ := fun a q w => by
      rcases ow₆ a w with w | w
      · exact hF'o a q (ow₅ a w)
      · have := (W.node _ _ _ a hSx₅ q).2; rw [w] at this; cases this
    cases fl <;> first | exact fi.elim | skip
    exact ⟨ds.length + 1 - (j + 1), turn_lt hlt, j + 1, σ₂, F', hlt, rfl, q, W.frame (j + 1) F' s₅ s₆ _ hSx₅ mv₆ (fun a q w => by
          rcases w with w | w
          · exact hF'w a q (.inl w)
          · exact hF'o a q (ow₅ a w)) (fun a q nd w => by
          rcases w with w | w
          · exact node_not_frame inv₅.frame nd w
          · exact (hok1 a q).2 (ow₅ a w)), inv₆, mv₆', hk₆, R.mv inv₅ mv₆ hq₅, how₆, fun b e => dom₅ b (mv₆.dom b e), hF'0, hFo₆, hFs'⟩
  · have hjl : j = ds.length := Nat.le_antisymm hj (Nat.not_lt.mp hlt)
    subst hjl
    have hdone := W.done F s' hSx hk hK hap
    cases rz with
    | none =>
      refine wpAny_mono (hdone _) (fun r' s₃ q => ?_) fun _ _ x => x
      obtain ⟨rfl, mi⟩ := q
      have inv₃ := hinv.mvI mi hfpw (fun a w => (W.node _ F s' a hSx w).1) fun b w => i.fresh b (hF b w)
      have mv₃ := MvI.after hmv mi (fun a w => hF a w) hwg
      exact wpAny_execs_nil (fin _ ⟨.next, σ₁, ⟨rfl, hJ⟩, trivial, inv₃, mv₃, mv₃.base k i.off, fun a w => (how a w).imp id fun z => st.ext.none z⟩)
    | some xm =>
      obtain ⟨X, msg⟩ := xm
      refine wpAny_mono hdone (fun r' s₃ q => q.elim) fun x s₃ q => ?_
      obtain ⟨s₄, e, rfl, mi, ex⟩ := q
      have inv₄ := hinv.mvI mi hfpw (fun a w => (W.node _ F s' a hSx w).1) fun b w => i.fresh b (hF b w)
      have mv₄ := MvI.after hmv mi (fun a w => hF a w) hwg
      have hq₄ := hkeep hfpS mi
      have K₄ := hq₄.stk inv₄.frame (inv₄.off _ (.inl (.inl rfl)))
      refine ex.note K₄ hq₄.2.1 (fun L' z => by cases z) fun s₅ ex₅ => ?_
      exact ex₅.back hq₄.2.1 fun s₆ ex₆ => fin _ _ ⟨s₄, e, _, rfl, .inr (.inr ⟨_, rfl, hq₄.2.1⟩), mv₄, inv₄.frame, hq₄, ex₆⟩
theorem ExP1.forZ {target iter : Expr} {body : List Stmt} {pos : Pos} {ds : List D} {f : D → St → St} (hi : EvIZ G n env (env :: l) σ iter target ds none) (ht : ∀ d ∈ ds, AssD G n env target d (f d)) (J : Nat → St → Prop) (h0 : J 0 σ)
    (turn : ∀ i d σ₁, ds[i]? = some d → J i σ₁ → Ex G n env (f d σ₁) body fun fl σ₂ => fl = .next ∧ J (i + 1) σ₂)
    (hs : ∀ x, foldedSetIterable iter env x = pure x := by intro _; rfl) : ExP1 G n env (HS G.base env l) σ (.For target iter body [] pos) fun fl σ' => fl = .next ∧ J ds.length σ' := fun ok A s E hq r k i =>
  loopZ hi ht J h0 turn hq r k i (fun _ a => a) hs
theorem ExX1.forZ {X : String} {msg : Str} {target iter : Expr} {body : List Stmt} {pos : Pos} {ds : List D} {f : D → St → St} (hi : EvIZ G n env (env :: l) σ iter target ds (some (X, msg))) (ht : ∀ d ∈ ds, AssD G n env target d (f d)) (J : Nat → St → Prop) (h0 : J 0 σ)
    (turn : ∀ i d σ₁, ds[i]? = some d → J i σ₁ → Ex G n env (f d σ₁) body fun fl σ₂ => fl = .next ∧ J (i + 1) σ₂)
    (hs : ∀ x, foldedSetIterable iter env x = pure x := by intro _; rfl) : ExX1 G n env (HS G.base env l) σ (.For target iter body [] pos) X msg := fun ok A s hq r k i =>
  loopZ hi ht J h0 turn hq r k i (fun _ _ a => a) hs
end
end Z
end Mine
end
section
open PySem PySem.W PyProof.Rows PySem.Calls
set_option maxRecDepth 100000
namespace Mine
namespace Z
section
variable {G : Gr} {n : Nat} {env : Env} {σ : St} {l : List Env} {X : String} {msg : Str}
/-- a loop whose m-th turn raises -/
theorem ExX1.forM {target iter : Expr} {body : List Stmt} {pos : Pos} {ds : List D} {f : D → St → St} (m : Nat) (hm : m < ds.length) (hi : EvIX G n env σ iter target ds) (ht : ∀ d ∈ ds, AssD G n env target d (f d)) (J : Nat → St → Prop) (h0 : J 0 σ)
    (turn : ∀ i d σ₁, i < m → ds[i]? = some d → J i σ₁ → ExP G n env (HS G.base env l) (f d σ₁) body fun fl σ₂ => fl = .next ∧ J (i + 1) σ₂)
    (last : ∀ d σ₁, ds[m]? = some d → J m σ₁ → ExX G n env (HS G.base env l) (f d σ₁) body X msg) (hs : ∀ x, foldedSetIterable iter env x = pure x := by intro _; rfl) : ExX1 G n env (HS G.base env l) σ (.For target iter body [] pos) X msg := fun ok A s hq0 r k i => by
  have R : Rd G.base env (fpS l) (HS G.base env l) := rdS
  refine wpAny_For (wpAny_mono (hi ok A s _ r k i) (fun x s₁ p₁ => wpAny_mono p₁ (fun it s₂ p₂ => ?_) fun _ _ x => x) fun _ _ x => x) hs
  obtain ⟨st, I, fpi, wr, wg, Sx, X, rfl, W, hst, hfp, hwr, hX, hwg⟩ := p₂
  have i₂ : Inv G.base (fun b => ok b ∧ ¬ X b) env σ s₂.heap := i.hides st.ext (fun a w => (hwr a (hX a w)).1) fun a w => (W.node 0 s₂ a hst (hX a w)).2
  have hwfp : ∀ a, wr a → ¬ fpS l a := fun a h1 h2 => by
    have := (R.apart A _ hq0 i.frame a h2).1
    rw [(hwr a h1).1] at this; cases this
  refine codeAny_forLoop_any (fun mm s' => ∃ j, j ≤ m ∧ FxI G env σ (fun b => ok b ∧ ¬ X b) (HS G.base env l) A (fun i σ => i = j ∧ J i σ) Sx wr ds.length s s₂ mm s') ?_ (ds.length + 1) ⟨0, Nat.zero_le _, 0, σ, Nat.zero_le _, rfl, ⟨rfl, h0⟩, hst, i₂, st.mv, st.ext.base k, R.ext st.ext hq0, fun a w => .inl w, fun _ _ e => e⟩
  rintro mm s' ⟨j', hjm, ⟨j, σ₁, hj, rfl, ⟨rfl, hJ⟩, hSx, hinv, hmv, hk, hq, how, hdom⟩⟩
  have hfpw : ∀ a, fpi a → ¬ Wr env σ₁ a := fun a q w => by
    rcases w with w | w
    · exact (hfp a q).2 (.inl w)
    · rcases how a w with w | w
      · exact (hfp a q).2 (.inr w)
      · have := (hfp a q).1; rw [w] at this; cases this
  have hwr2 : ∀ a, wr a → ¬ Wr env σ₁ a := fun a q => hfpw a (hwr a q).2
  have hok1 : ∀ a, (okO ok σ a ∧ (s₂.heap.get? a).isSome = true ∧ ¬ X a) → okO (fun b => ok b ∧ ¬ X b) σ₁ a := fun a q => ⟨⟨q.1.1, q.2.2⟩, fun w => (how a w).elim q.1.2 fun z => by rw [z] at q; cases q.2.1⟩
  have hlt : j < ds.length := by omega
  have hd : ds[j]? = some ds[j] := List.getElem?_eq_getElem hlt
  refine wpAny_mono (W.item j ds[j] s' _ (okO (fun b => ok b ∧ ¬ X b) σ₁) hd hSx hk hok1 hinv.freshO) (fun r' s₃ q => ?_) fun _ _ x => x
  obtain ⟨v, rfl, q⟩ := q
  refine wpAny_mono q (fun _ s₄ q => ?_) fun _ _ x => x
  obtain ⟨rp, hSx', mi⟩ := q
  have inv₄ := hinv.mvX mi hwr2 (fun a w nd q => (W.node j s' a hSx w).1 q.2 nd) (fun _ q => q) fun b e => by
    have nw : ¬ wr b := fun w => by have := (W.node _ s₄ b hSx' w).2; rw [e] at this; cases this
    exact hinv.fresh b (mi.dom b nw e)
  have mv₄ := MvI.after hmv mi (fun a w => (hwr a w).1) hwg
  have hk₄ := mv₄.base k i.off
  have hq₄ : HS G.base env l A s₄.heap := R.keep A _ _ hq fun b hb o e => mi.ext b o (fun z => hwfp b z hb) e
  refine wpAny_mono (ht ds[j] (List.getElem_mem hlt) σ₁ (fun b => ok b ∧ ¬ X b) A s₄ _ v r hk₄ inv₄ rp) (fun _ s₅ q => ?_) fun _ _ x => x
  obtain ⟨inv₅, mv₅, ow₅⟩ := q
  have hq₅ : HS G.base env l A s₅.heap := R.mv inv₄ mv₅ hq₄
  have mv₅' : Mv G.base (Wr env σ) s s₅ := mv₄.trans mv₅ fun a w => by
    rcases w with w | w
    · exact .inl (.inl w)
    · exact (how a w).imp .inr fun z => st.ext.none z
  have hk₅ := mv₅'.base k i.off
  have up5 : ∀ a, Wr env (f ds[j] σ₁) a → Wr env σ a ∨ s.heap.get? a = none := fun a w => by
    rcases w with w | w
    · exact .inl (.inl w)
    · exact (how a (ow₅ a w)).imp .inr fun z => st.ext.none z
  by_cases hjm2 : j = m
  · subst hjm2
    refine wpAny_mono (last ds[j] σ₁ hd hJ (fun b => ok b ∧ ¬ X b) A s₅ hq₅ r hk₅ inv₅) (fun _ _ z => z.elim) fun v s₆ z => ?_
    obtain ⟨s₁, e, w, rfl, hw, mv₆, fr₁, h₁, ex⟩ := z
    have K := h₁.stk fr₁ (i.off _ (.inl (.inl rfl)))
    refine ex.note K h₁.2.1 (fun L' z => ?_) fun s₇ ex₇ => ?_
    · rcases hw with hw | hw | ⟨L'', hw, hL⟩
      · rw [hw] at z; cases z
      · rw [hw] at z; cases z
      · rw [hw] at z; cases z; rw [h₁.2.1] at hL; cases hL; rfl
    · exact ex₇.back h₁.2.1 fun s₈ ex₈ => ⟨s₁, e, _, rfl, .inr (.inr ⟨_, rfl, h₁.2.1⟩), mv₅'.trans mv₆ up5, fr₁, h₁, ex₈⟩
  · have hSx₅ : Sx (j + 1) s₅ := W.frame (j + 1) s₄ s₅ _ hSx' mv₅ (fun a q => hfpw a q) fun a q nd w => by
      rcases w with w | w
      · exact node_not_frame inv₄.frame nd w
      · exact (hok1 a q).2 w
    refine wpAny_mono (turn j ds[j] σ₁ (by omega) hd hJ (fun b => ok b ∧ ¬ X b) A s₅ _ hq₅ r hk₅ inv₅) (fun fl s₆ q => ?_) fun _ _ x => x
    obtain ⟨fl', σ₂, ⟨rfl, q⟩, fi, inv₆, mv₆, hk₆, ow₆⟩ := q
    have dom₅ : ∀ b, ¬ wr b → s₅.heap.get? b = none → s₂.heap.get? b = none := fun b nz e => hdom b nz (mi.dom b nz (mv₅.dom b e))
    have how₆ : ∀ a ∈ owned σ₂, a ∈ owned σ ∨ s₂.heap.get? a = none := fun a w => by
      rcases ow₆ a w with w | w
      · exact how a (ow₅ a w)
      · exact .inr (dom₅ a (fun z => by have := (W.node _ _ a hSx₅ z).2; rw [w] at this; cases this) w)
    cases fl <;> first | exact fi.elim | skip
    exact ⟨ds.length + 1 - (j + 1), turn_lt hlt, j + 1, by omega, j + 1, σ₂, hlt, rfl, ⟨rfl, q⟩, W.frame (j + 1) s₅ s₆ _ hSx₅ mv₆ (fun a q w => by
        rcases w with w | w
        · exact (hfp a q).2 (.inl w)
        · exact hfpw a q (.inr (ow₅ a w))) (fun a q nd w => by
        rcases w with w | w
        · exact node_not_frame inv₅.frame nd w
        · exact (hok1 a q).2 (ow₅ a w)), inv₆, mv₅'.trans mv₆ up5, hk₆, R.mv inv₅ mv₆ hq₅, how₆, fun b nz e => dom₅ b nz (mv₆.dom b e)⟩
variable {okc : Addr → Prop} {Res : Heap → Prop}
theorem EvIA.enumS {e : Expr} {x : Str} {p pos tp : Pos} {ts : List Expr} {k : Nat} (hk : env.kindOf "enumerate" = some .globalImplicit) (hg : G.mg "enumerate" = none) (h : Ev G n env σ e (.str x))
    (hns : noStar [e] = true := by rfl) (hplain : (backTo pos (starEach [e] env)).any (·.1) = false := by rfl) (he : starEach [e] env = (false, eval e env) :: starEach [] env := by rfl) :
    EvIA G n env σ okc Res (.Call (.Name "enumerate" p) [e] [] pos) (.Tuple ts k tp) (enumL (signs x)) := fun ok A s E r kb i _ => by
  have hb : Ev G n env σ (.Name "enumerate" p) (.raw (.type "enumerate")) := Ev.builtin hk hg boot_enumerate
  refine Call_ (wpAny_mono (hb ok A s E r kb i) (fun v s₁ p₁ => ?_) fun _ _ x => x)
  obtain ⟨st, rp⟩ := p₁
  cases rp
  have kb₁ := st.ext.base kb
  refine callWith_callee (G := G) (.type _) hplain (wpAny_mono ((EvL.cons h .nil he : EvL G n env σ [e] [.str x]) ok A s₁ E pos r kb₁ (i.ext st.ext)) (fun vs s₂ p₂ => ⟨p₂.1.ext.base kb₁, ?_⟩) fun _ _ x => x) hns
  obtain ⟨st₂, rs⟩ := p₂
  cases rs with
  | cons ra rs =>
    cases rs
    cases ra
    rename_i t
    have st12 := st.trans st₂
    have kb₂ := st₂.ext.base kb₁
    refine call_enumerate_str fun h' he' hit hsz hkeep => ?_
    refine wpAny_pyIter_enum he' ?_
    have st₃ : Stp G.base s₂ { s₂ with heap := h' } := ⟨.of_stays hkeep, rfl, .refl⟩
    have D : ∀ A' : Around, A'.handled = none → Draws G.prog G.w A'.in1 s₂.heap.objs.size [s₂.heap.objs.size] x.cps.size (fun i v => ∃ c u, x.cps[i]? = some c ∧ v = .str ⟨#[c]⟩ u) (fun i h => h.IsStrIter s₂.heap.objs.size (strIterType x) x t i) := fun A' hA => by
      unfold strIterType
      cases x.cps.all (· < 128) with
      | true => exact Draws.strAscii (by exact hA) _ x t
      | false => exact Draws.strWide (by exact hA) _ x t
    have hne : s₂.heap.objs.size + 1 ≠ s₂.heap.objs.size := Nat.succ_ne_self _
    have W := fun A' hA => WalksT.enumerateD (A := A') (D A' hA) (s₂.heap.objs.size + 1) hne (by simp) (by simp)
    have hf0 : ∀ a, s₂.heap.objs.size ≤ a → s.heap.get? a = none := fun a ha => by
      cases q : s₂.heap.get? a with
      | none => exact st12.ext.none q
      | some o => exact absurd (Heap.lt_size q) (Nat.not_lt.mpr ha)
    have hT : nodeType (strIterType x) = false := by unfold strIterType; split <;> rfl
    refine ⟨st12.trans st₃, _, _, _, rfl, ItrH.of_walksT W (by simp [enumL_length, signs]) (fun b hb => .inl ?_) (fun b hb => ?_) ?_ ?_, ⟨⟨⟨_, he'⟩, hit⟩, st₃.ext.base kb₂⟩, ?_⟩
    · simpa using hb
    · have hb0 : ∀ b, s₂.heap.objs.size ≤ b → G.base.get? b = none := fun b hb => by
        cases q : G.base.get? b with
        | none => rfl
        | some o => exact absurd (Heap.lt_size (kb₂ b o q)) (Nat.not_lt.mpr hb)
      refine hb0 b ?_
      simp only [List.mem_cons, List.not_mem_nil, or_false] at hb
      rcases hb with rfl | rfl <;> omega
    · rintro j h ⟨⟨old, e1⟩, e2⟩ b hb
      simp only [List.mem_cons, List.not_mem_nil, or_false] at hb
      rcases hb with rfl | rfl
      · exact ⟨_, _, e1, rfl, rfl, rfl⟩
      · obtain ⟨o, e2, c2, d2⟩ := e2
        exact ⟨o, _, e2, c2, by rw [d2]; rfl, hT⟩
    · rintro j vals d hd ⟨tk, y, ⟨c, u, hc, rfl⟩, rfl⟩
      obtain ⟨e', he2, rfl⟩ := enumL_get.mp hd
      simp [signs] at he2
      obtain ⟨c', hc', rfl⟩ := he2
      rw [hc] at hc'; cases hc'
      exact ⟨_, rfl, fun ok h => .cons (.int _ _) (.cons (.str _ _) .nil)⟩
    · intro a ha
      refine hf0 a ?_
      simp only [List.mem_cons, List.not_mem_nil, or_false] at ha
      rcases ha with rfl | rfl <;> omega
end
end Z
end Mine
end
section
open PySem PySem.W PyProof.Rows PySem.Calls
set_option maxRecDepth 100000
open PySem
namespace Mine
namespace P9
inductive Itm where
  | num (i : Int)
  | txt (x : Str)
def isBs : Itm → Bool
  | .txt x => decide (x = "\\")
  | .num _ => false
def isMk : Itm → Bool
  | .txt x => decide (x = "\"")
  | .num _ => false
def isNum : Itm → Bool
  | .num _ => true
  | .txt _ => false
/-- an odd row of backslashes right ahead of place k -/
def row (l : List Itm) (k : Nat) : Nat := ((l.take k).reverse.takeWhile isBs).length
def odd (l : List Itm) (k : Nat) : Bool := decide (row l k % 2 = 1)
theorem row_succ {l : List Itm} {k : Nat} {i : Itm} (h : l[k]? = some i) : row l (k + 1) = if isBs i then row l k + 1 else 0 := by
  obtain ⟨hk, e⟩ := List.getElem?_eq_some_iff.mp h
  unfold row
  rw [List.take_succ_eq_append_getElem hk, e, List.reverse_append]
  show (List.takeWhile isBs (i :: (l.take k).reverse)).length = _
  rw [List.takeWhile_cons]
  split <;> simp
theorem odd_zero (l : List Itm) : odd l 0 = false := rfl
theorem odd_succ {l : List Itm} {k : Nat} {i : Itm} (h : l[k]? = some i) : odd l (k + 1) = (isBs i && !odd l k) := by
  unfold odd
  rw [row_succ h]
  cases isBs i with
  | true =>
    rw [if_pos rfl, Bool.true_and]
    by_cases q : row l k % 2 = 1
    · have : ¬ (row l k + 1) % 2 = 1 := by omega
      simp [q, this]
    · have : (row l k + 1) % 2 = 1 := by omega
      simp [q, this]
  | false => rfl
/-- the bare marks, or none where a number stands behind an odd row -/
def walk (e : Bool) (p : Nat) : List Itm → Option (List Nat)
  | [] => some []
  | i :: r => if e then (if isNum i then none else walk false (p + 1) r) else if isBs i then walk true (p + 1) r else if isMk i then (walk false (p + 1) r).map (p :: ·) else walk false (p + 1) r
/-- the same as the law goes -/
def want (l : List Itm) (p : Nat) : List Itm → Option (List Nat)
  | [] => some []
  | i :: r => if isNum i && odd l p then none else if isMk i && !odd l p then (want l (p + 1) r).map (p :: ·) else want l (p + 1) r
theorem bs_not {i : Itm} (h : isBs i = true) : isMk i = false ∧ isNum i = false := by
  cases i with
  | num => cases h
  | txt x =>
    have := of_decide_eq_true h
    subst this
    exact ⟨by decide, rfl⟩
theorem want_walk (l : List Itm) : ∀ (r : List Itm) (p : Nat), l.drop p = r → want l p r = walk (odd l p) p r
  | [], p, _ => rfl
  | i :: r, p, h => by
    have hp : l[p]? = some i := by rw [← List.head?_drop, h]; rfl
    have hr : l.drop (p + 1) = r := by rw [← List.tail_drop, h]; rfl
    have ih := want_walk l r (p + 1) hr
    rw [odd_succ hp] at ih
    rw [want, walk, ih]
    cases odd l p with
    | true => cases isNum i <;> simp
    | false =>
      cases hb : isBs i with
      | true => simp [bs_not hb]
      | false => cases isMk i <;> simp
/-- gone in stretches -/
def gone : List Nat → Nat
  | m :: c :: r => c - m + 1 + gone r
  | _ => 0
/-- nothing is left -/
def bare (n : Nat) : Nat → List Nat → Bool
  | s, m :: c :: r => decide (s = m) && bare n (c + 1) r
  | s, [m] => decide (¬ s < n)
  | s, [] => decide (¬ s < n)
def Up (n : Nat) : Nat → List Nat → Prop
  | s, m :: r => s ≤ m ∧ m < n ∧ Up n (m + 1) r
  | s, [] => s ≤ n
theorem Up.weak {n : Nat} : ∀ {l : List Nat} {s t : Nat}, Up n t l → s ≤ t → Up n s l
  | [], s, t, h, q => Nat.le_trans q h
  | m :: r, s, t, h, q => ⟨Nat.le_trans q h.1, h.2⟩
theorem Up.le {n : Nat} : ∀ {l : List Nat} {s : Nat}, Up n s l → s ≤ n
  | [], s, h => h
  | m :: r, s, h => Nat.le_trans h.1 (Nat.le_of_lt h.2.1)
theorem gone_le {n : Nat} : ∀ {l : List Nat} {s : Nat}, Up n s l → s + gone l ≤ n
  | [], s, h => h
  | [m], s, h => Up.le h
  | m :: c :: r, s, h => by
    have := gone_le (l := r) (s := c + 1) h.2.2.2.2
    have h1 := h.1
    have h2 := h.2.2.1
    show s + (c - m + 1 + gone r) ≤ n
    omega
theorem bare_gone {n : Nat} : ∀ {l : List Nat} {s : Nat}, Up n s l → bare n s l = decide (s + gone l = n)
  | [], s, h => by
    have : s ≤ n := h
    show decide _ = decide _
    rw [decide_eq_decide]
    show ¬ s < n ↔ s + 0 = n
    omega
  | [m], s, h => by
    have h1 := h.1
    have h2 := h.2.1
    show decide _ = decide _
    rw [decide_eq_decide]
    show ¬ s < n ↔ s + 0 = n
    omega
  | m :: c :: r, s, h => by
    have ih := bare_gone (l := r) (s := c + 1) h.2.2.2.2
    have g := gone_le (l := r) (s := c + 1) h.2.2.2.2
    have h1 := h.1
    have h2 := h.2.2.1
    show (decide (s = m) && bare n (c + 1) r) = decide (s + (c - m + 1 + gone r) = n)
    rw [ih, ← Bool.decide_and, decide_eq_decide]
    omega
theorem walk_up : ∀ {r : List Itm} {e : Bool} {p : Nat} {ms : List Nat}, walk e p r = some ms → Up (p + r.length) p ms
  | [], e, p, ms, h => by cases h; exact Nat.le_refl _
  | i :: r, e, p, ms, h => by
    rw [walk] at h
    have hl : p + (i :: r).length = p + 1 + r.length := by rw [List.length_cons]; omega
    rw [hl]
    have go : ∀ {e}, walk e (p + 1) r = some ms → Up (p + 1 + r.length) p ms := fun q => (walk_up q).weak (Nat.le_succ p)
    cases e with
    | true =>
      rw [if_pos rfl] at h
      split at h
      · cases h
      · exact go h
    | false =>
      rw [if_neg Bool.false_ne_true] at h
      split at h
      · exact go h
      · split at h
        · cases q : walk false (p + 1) r with
          | none => rw [q] at h; cases h
          | some ms' =>
            rw [q] at h; cases h
            exact ⟨Nat.le_refl _, by omega, walk_up q⟩
        · exact go h
end P9
end Mine
end
section
open PySem PySem.W PyProof.Rows PySem.Calls
set_option maxRecDepth 100000
namespace Mine
namespace L09
open PySem.Challenge
abbrev df (i : Nat) : DefRec := defAt pw_dm0097_09 i
/-- what the functions of the project lean on -/
structure Pj (G : Gr) : Prop where
  len : G.mg "len" = none
  enum : G.mg "enumerate" = none
  iter : ∃ a, FnAt G (df 1) a
  strip : ∃ a, FnAt G (df 2) a
  check : ∃ a, FnAt G (df 3) a
section
variable {G : Gr} {n : Nat} {env : Env} {σ : St}
end
end L09
end Mine
end
section
open PySem PySem.W PyProof.Rows PySem.Calls
set_option maxRecDepth 100000
namespace Mine
namespace L09
open PySem.Challenge
section
variable {G : Gr} {n : Nat} {env : Env} {σ : St}
def optD : Option Nat → D
  | none => .none
  | some k => .int (k : Nat)
end
end L09
end Mine
end
section
open PySem PySem.W PyProof.Rows PySem.Calls
set_option maxRecDepth 100000
namespace Mine
namespace L09
open PySem.Challenge
open P9
def itmD : P9.Itm → D
  | .num i => .int i
  | .txt x => .str x
def Fine : P9.Itm → Prop
  | .num _ => True
  | .txt x => x.length ≤ 2 ∧ PyData.strOk x = true
/-- what the project's generator gives of a row of items -/
def toks9 : Bool → Nat → List P9.Itm → List D
  | true, p, [] => [.tuple [.int ((p - 1 : Nat) : Int), .str "\\"]]
  | false, p, [] => []
  | true, p, .num _ :: r => []
  | true, p, .txt x :: r => .tuple [.int (p : Nat), .str ("\\" ++ x)] :: toks9 false (p + 1) r
  | false, p, i :: r => if isBs i then toks9 true (p + 1) r else .tuple [.int (p : Nat), itmD i] :: toks9 false (p + 1) r
def msgCat : Str := "can only concatenate str (not \"int\") to str"
def rzOf (b : Bool) : Z.Rz := if b then some ("TypeError", msgCat) else none
theorem sub_te_si : isSubtype (.type "TypeError") (.type "StopIteration") = pure false := by rw [isSubtype_type]; kernel_rfl
section
variable {G : Gr} {n : Nat} {env : Env} {σ : St} {l : List Env}
theorem gsOf {A : Around} {rz : Z.Rz} {okc : Addr → Prop} {g : Nat} {c : Code} {fs : List PySem.Frame} {FR : Addr → Prop} {Res : Heap → Prop} {ds : List D} {σ₀ : St} {t : Sem Fin} (h : Z.Gs G A l rz okc g env c fs FR Res σ₀ t ds) (hs : Sub σ₀ σ) : Z.Gs G A l rz okc g env c fs FR Res σ t ds := Z.Gs.only hs h
theorem CmpD.eq_int_str {i : Int} {x : Str} (h : PyData.strOk x = true) : CmpD G n .Eq (.int i) (.str x) false := CmpD.eq (k := 0) rfl h (by decide)
theorem EvX.pair2 {H : Around → Heap → Prop} {a b : Expr} {p : Pos} {k : Nat} {d : D} {X : String} {msg : Str} (R : Rd G.base env (fun _ => False) H) (ha : Ev G n env σ a d) (hb : EvX G n env H σ b X msg) (e : starEach [a, b] env = (false, eval a env) :: starEach [b] env := by rfl) (e2 : starEach [b] env = (false, eval b env) :: starEach [] env := by rfl) : EvX G n env H σ (.Tuple [a, b] k p) X msg := fun ok A s q r kb i =>
  Tuple_ (args_cons (wpAny_mono (ha ok A s _ r kb i) (fun v s₁ p₁ =>
    args_cons (wpAny_mono (hb ok A s₁ (R.ext p₁.1.ext q) r (p₁.1.ext.base kb) (i.ext p₁.1.ext)) (fun _ _ z => z.elim) fun _ _ z => z.of_stp p₁.1) e2) fun _ _ x => x) e)
set_option maxHeartbeats 4000000 in
theorem gen9_ok {its : List P9.Itm} {kd : Bool} {a : Addr} {vs : List Value} {e target : Expr} {p pos : Pos} (T : Pj G) (hT : Z.Th G.base kd a vs) (hs : Z.Says vs (its.map itmD)) (hf : ∀ i ∈ its, Fine i) {ai : Addr} (F : FnAt G (df 1) ai) (hk : env.kindOf (df 1).name = some .globalImplicit) (h : Ev G (n + 1) env σ e (.raw (.ref a)))
    (hns : noStar [e] = true := by rfl) (hplain : (backTo pos (starEach [e] env)).any (·.1) = false := by rfl) (he : starEach [e] env = (false, eval e env) :: starEach [] env := by rfl) :
    Z.EvIZ G (n + 1) env l σ (.Call (.Name (df 1).name p) [e] [] pos) target (toks9 false 0 its) (rzOf (walk false 0 its).isNone) := by
  generalize hrz : (walk false 0 its).isNone = w
  refine Z.EvIZ.gen1 (x := "addr") F hk h rfl (fun X msg z => ?_) (fun env' A' okc g KF HF FE L0 hH hKF => ?_) (hns := hns) (hplain := hplain) (he := he)
  · cases w with
    | false => cases z
    | true => cases z; exact sub_te_si
  refine Z.Gs.cons (Z.Gs.assign L0.room L0.stable .int (FE.loc rfl) rfl ?_)
  refine Z.Gs.cons (Z.Gs.assign L0.room L0.stable .bool (FE.loc rfl) rfl ?_)
  refine Z.Gs.cons (Z.Gs.forA (f := pairS "pos" "ch") (es := enumL (its.map itmD)) (fun i (b : Bool) => [("addr", .val (.raw (.ref a))), ("pos", .val (.int ((i - 1 : Nat) : Int))), ("escape", .val (.bool b))]) (fun i b => (b = true → 0 < i) ∧ (walk b i (its.drop i)).isNone = w) (fun i b => toks9 b i (its.drop i)) false L0 rfl (fun X msg _ => hH X msg) ⟨nofun, hrz⟩ ⟨rfl, rfl, rfl, trivial⟩ (fun _ _ => rfl)
    (.enumT (FE.kind rfl) T.enum (.name rfl) hT hs) ?_ ?_ ?_ ?_ (fun _ _ _ _ _ _ _ => trivial))
  · intro d hd
    obtain ⟨i, hi, rfl⟩ := List.mem_map.mp hd
    exact .pair (FE.loc rfl) (FE.loc rfl)
  · intro d i p
    unfold pairS
    split <;> rfl
  · intro c' fs' FR' Res' KL HL i d b L hHL hd hb next
    obtain ⟨e', he', rfl⟩ := enumL_get.mp hd
    rw [List.getElem?_map] at he'
    obtain ⟨it, hit, rfl⟩ := Option.map_eq_some_iff.mp he'
    have hfi := hf it (List.mem_of_getElem? hit)
    have hlt : i < its.length := (List.getElem?_eq_some_iff.mp hit).1
    have hdrop : its.drop i = it :: its.drop (i + 1) := by
      rw [List.drop_eq_getElem_cons hlt]; congr 1
      exact (List.getElem?_eq_some_iff.mp hit).2
    obtain ⟨hb0, hb⟩ := hb
    rw [hdrop] at hb ⊢
    cases b with
    | true =>
      refine Z.Gs.cons (Z.Gs.ite L.room L.stable (Tr.plain (Ev.name rfl).b .bool) (fun _ => ?_) nofun)
      cases it with
      | num z =>
        have : w = true := by rw [← hb]; rfl
        subst this
        exact Z.Gs.cons (Z.Gs.yieldX L.room (EvX.pair2 rdT (.name rfl) (EvX.binop .str (.name rfl) BinX.str_int)) (hHL _ _ rfl))
      | txt x =>
        refine Z.Gs.cons (Z.Gs.yield (σ' := [("addr", .val (.raw (.ref a))), ("pos", .val (.int i)), ("ch", .val (.str x)), ("escape", .val (.bool true))]) (d := .tuple [.int (i : Nat), .str ("\\" ++ x)]) L.room L.stable L.split rfl L.quiet ((Ev.tuple (.cons (.name rfl) (.cons (.binop .str (.name rfl) (.add_str (sz (by
          have := hfi.1
          have e : (Str.ofString "\\").length = 1 := rfl
          omega)))) .nil)) (sz (by simp))).cast rfl) ⟨rfl, rfl, rfl, rfl, trivial⟩ rfl (by rw [FE.scope]; rfl) ?_)
        refine Z.Gs.cons (Z.Gs.assign L.room L.stable .bool (FE.loc rfl) rfl ?_)
        exact Z.Gs.nil (Z.Gs.nil (gsOf (next false ⟨nofun, hb⟩) ⟨rfl, rfl, rfl, trivial⟩))
    | false =>
      refine Z.Gs.cons (Z.Gs.ite L.room L.stable (Tr.plain (Ev.name rfl).b .bool) nofun (fun _ => ?_))
      cases hbs : isBs it with
      | true =>
        cases it with
        | num z => cases hbs
        | txt x =>
          have hx := of_decide_eq_true hbs
          subst hx
          refine Z.Gs.cons (Z.Gs.ite (x := true) L.room L.stable ((Tr.cmp (Ev.name rfl).b Ev.str.b .eq_str).cast rfl) (fun _ => ?_) nofun)
          refine Z.Gs.cons (Z.Gs.assign L.room L.stable .bool (FE.loc rfl) rfl ?_)
          exact Z.Gs.nil (Z.Gs.nil (Z.Gs.nil (gsOf (next true ⟨fun _ => Nat.succ_pos _, hb⟩) ⟨rfl, rfl, rfl, trivial⟩)))
      | false =>
        have htr : Tr G n env' (pairS "pos" "ch" (.tuple [.int (i : Nat), itmD it]) [("addr", .val (.raw (.ref a))), ("pos", .val (.int ((i - 1 : Nat) : Int))), ("escape", .val (.bool false))]) (match (match (df 1).body.drop 2 with | .For _ _ b _ _ :: _ => b | _ => []) with | [.If _ _ [.If t _ _ _] _] => t | _ => .Constant .none 0 ⟨0, 0, 0, 0⟩) false := by
          cases it with
          | num z => exact Tr.cmp (Ev.name rfl).b Ev.str.b (CmpD.eq_int_str (by decide +kernel))
          | txt x => exact (Tr.cmp (Ev.name rfl).b Ev.str.b .eq_str).cast hbs
        refine Z.Gs.cons (Z.Gs.ite (x := false) L.room L.stable htr nofun (fun _ => ?_))
        have ht9 : toks9 false i (it :: its.drop (i + 1)) = .tuple [.int (i : Nat), itmD it] :: toks9 false (i + 1) (its.drop (i + 1)) := by rw [toks9, hbs]; rfl
        have hat : Atomic (itmD it) = true := by cases it <;> rfl
        rw [ht9]
        refine Z.Gs.cons (Z.Gs.yield (σ' := [("addr", .val (.raw (.ref a))), ("pos", .val (.int i)), ("ch", .val (itmD it)), ("escape", .val (.bool false))]) L.room L.stable L.split rfl L.quiet ((Ev.tuple (.cons (.name rfl) (.cons (.name rfl) .nil)) (sz (by simp))).cast rfl) ⟨rfl, rfl, rfl, rfl, trivial⟩ (by show (true && (true && (Atomic (itmD it) && true))) = true; rw [hat]; rfl) (by rw [FE.scope]; rfl) ?_)
        refine Z.Gs.nil (Z.Gs.nil (Z.Gs.nil (gsOf (next false ⟨nofun, ?_⟩) ⟨rfl, rfl, rfl, trivial⟩)))
        rw [← hb, walk, if_neg (by decide), hbs, if_neg (by decide)]
        split
        · cases walk false (i + 1) (its.drop (i + 1)) <;> rfl
        · rfl
  · rintro b ⟨hb0, hb⟩
    have hlen : (enumL (its.map itmD)).length = its.length := by rw [enumL_length, List.length_map]
    rw [hlen, List.drop_length] at hb ⊢
    have : w = false := by rw [← hb]; cases b <;> rfl
    subst this
    cases b with
    | true =>
      refine Z.Gs.cons (Z.Gs.ite L0.room L0.stable (Tr.plain (Ev.name rfl).b .bool) (fun _ => ?_) nofun)
      refine Z.Gs.cons (Z.Gs.yield (σ' := []) L0.room L0.stable rfl rfl rfl ((Ev.tuple (.cons (.name rfl) (.cons .str .nil)) (sz (by simp))).cast rfl) trivial rfl (by rw [FE.scope]; rfl) ?_)
      exact Z.Gs.nil (Z.Gs.nil (Z.Gs.fin hKF))
    | false =>
      refine Z.Gs.cons (Z.Gs.ite L0.room L0.stable (Tr.plain (Ev.name rfl).b .bool) nofun (fun _ => ?_))
      exact Z.Gs.nil (Z.Gs.nil (Z.Gs.fin hKF))
end
end L09
end Mine
end
section
open PySem PySem.W PyProof.Rows PySem.Calls
set_option maxRecDepth 100000
namespace Mine
namespace L09
open PySem.Challenge
open P9
def seqD (kd : Bool) (ds : List D) : D := if kd then .list ds else .tuple ds
/-- said of less, holds of more -/
def Up (G : Gr) (d d' : D) : Prop := ∀ (ok : Addr → Prop) (h : Heap) v, G.base.StaysIn h → Rep ok h v d → Rep (fun _ => True) h v d'
section
variable {G : Gr} {n : Nat} {env : Env} {σ : St} {l : List Env}
theorem Up.refl {d : D} : Up G d d := fun ok h v k r => r.weak fun _ _ => trivial
theorem rep_base {h : Heap} {v : Value} {d : D} (r : Rep (fun _ => True) G.base v d) (k : G.base.StaysIn h) : Rep (fun _ => True) h v d := r.ext (base := G.base) (.of_stays k) fun _ _ _ => trivial
theorem Up.raw {v : Value} {d : D} (r : Rep (fun _ => True) G.base v d) : Up G (.raw v) d := fun ok h u k q => by
  cases q; exact rep_base r k
theorem CmpD.up {op : CmpOp} {a b a' b' : D} {c : Bool} (h : CmpD G n op a' b' c) (u : Up G a a') (w : Up G b b') : CmpD G n op a b c := fun ok A s E va vb r k f ra rb =>
  h (fun _ => True) A s E va vb r k (fun _ _ => trivial) (u _ _ _ k ra) (w _ _ _ k rb)
theorem CallD.up1 {f : Value} {a a' d : D} (h : CallD G n f [a'] d) (u : Up G a a') (hat : Atomic d = true) : CallD G n f [a] d := fun ok A s E vs r k fr rs => by
  cases rs with | cons ra rs =>
  cases rs
  exact wpAny_mono (h (fun _ => True) A s E _ r k (fun _ _ => trivial) (.cons (u _ _ _ k ra) .nil)) (fun _ _ p => ⟨p.1, p.2.atomic hat⟩) fun _ _ x => x
theorem CallX.up1 {f : Value} {a a' : D} {X : String} {msg : Str} (h : CallX G n f [a'] X msg) (u : Up G a a') : CallX G n f [a] X msg := fun ok A s vs l r k fr K rs => by
  cases rs with | cons ra rs =>
  cases rs
  exact h (fun _ => True) A s _ l r k (fun _ _ => trivial) K (.cons (u _ _ _ k ra) .nil)
theorem th_rep {kd : Bool} {a : Addr} {vs : List Value} {ds : List D} (hT : Z.Th G.base kd a vs) (hs : Z.Says vs ds) : Rep (fun _ => True) G.base (.ref a) (seqD kd ds) := by
  cases kd with
  | true => exact .list trivial hT (hs _ _)
  | false => exact .tuple trivial hT (hs _ _)
/-- a list or a tuple, whatever is in it -/
def SeqItem (G : Gr) (kd : Bool) (d : D) : Prop := ∀ ok (s : Shared) v, G.base.StaysIn s.heap → Rep ok s.heap v d → ∃ b o, v = .ref b ∧ s.heap.get? b = some o ∧ o.cls = .type (if kd then "list" else "tuple") ∧ ∀ p, o.data ≠ .prim p
theorem SeqItem.seq {kd : Bool} {ds : List D} : SeqItem G kd (seqD kd ds) := fun ok s v k r => by
  cases kd with
  | true =>
    cases r with | list o l rs =>
    obtain ⟨ob, e, c, m, d⟩ := l
    exact ⟨_, ob, rfl, e, c, fun p z => by rw [d] at z; cases z⟩
  | false =>
    cases r with | tuple o l rs =>
    obtain ⟨ob, e, c, m, d⟩ := l
    exact ⟨_, ob, rfl, e, c, fun p z => by rw [d] at z; cases z⟩
theorem SeqItem.raw {kd : Bool} {a : Addr} {vs : List Value} (hT : Z.Th G.base kd a vs) : SeqItem G kd (.raw (.ref a)) := fun ok s v k r => by
  cases r
  cases kd with
  | true => obtain ⟨ob, e, c, m, d⟩ := hT; exact ⟨_, ob, rfl, k _ _ e, c, fun p z => by rw [d] at z; cases z⟩
  | false => obtain ⟨ob, e, c, m, d⟩ := hT; exact ⟨_, ob, rfl, k _ _ e, c, fun p z => by rw [d] at z; cases z⟩
def msgJoin (kd : Bool) : String := if kd then "sequence item 0: expected str instance, list found" else "sequence item 0: expected str instance, tuple found"
theorem CallX.join_seq {kd : Bool} {x : Str} {d : D} {ds : List D} (hd : SeqItem G kd d) : CallX G n (.builtin "str.join") [.str x, .list (d :: ds)] "TypeError" (msgJoin kd) := fun ok A s vs l r k f K rv => by
  cases rv with | cons a rs =>
  cases rs with | cons b rs =>
  cases rs
  cases a with | str _ t =>
  cases b with | list o l rs =>
  cases rs with | cons c rs =>
  obtain ⟨b, ob, rfl, h1, h2, h3⟩ := hd _ _ _ k c
  cases kd with
  | true => exact join_raises r.handled l h1 h2 h3 (by decide) (by decide +kernel) (by decide +kernel)
  | false => exact join_raises r.handled l h1 h2 h3 (by decide) (by decide +kernel) (by decide +kernel)
theorem len_raw {kd : Bool} {a : Addr} {vs : List Value} {ds : List D} (hT : Z.Th G.base kd a vs) (hs : Z.Says vs ds) (hl : ds.length < 2 ^ 62) : CallD G n (.builtin "len") [.raw (.ref a)] (.int ds.length) := by
  cases kd with
  | true => exact CallD.up1 (.len_list hl) (.raw (th_rep hT hs)) rfl
  | false => exact CallD.up1 (.len_tuple hl) (.raw (th_rep hT hs)) rfl
theorem notIn_raw {kd : Bool} {a : Addr} {vs : List Value} {ds : List D} {x : Str} (hT : Z.Th G.base kd a vs) (hs : Z.Says vs ds) (hd : (seqD kd ds).data 1 = true) (hx : PyData.strOk x = true) : CmpD G n .NotIn (.str x) (.raw (.ref a)) (!ds.any fun y => y.eqb (.str x)) := by
  cases kd with
  | true => exact CmpD.up (.notIn_list (k := 1) hd hx (by decide)) .refl (.raw (th_rep hT hs))
  | false => exact CmpD.up (.notIn_tuple (k := 1) hd hx (by decide)) .refl (.raw (th_rep hT hs))
end
section
variable {prog : Program} {w : World} {A : Around} {E : Value → Shared → Prop} {s : Shared}
theorem part_any {v : Value} {o : Option Int} {Q : Option Int → Shared → Prop} (p : IsPart v o) (h : Q o s) : wpAny (model prog w) A (Builtin.Slice.slicePartIndex v) Q E s := by
  cases p with
  | none => exact slicePart_none h
  | int i t => exact slicePart_int h
/-- the slice's place and length -/
def slLo (lo hi : Option Int) (n : Nat) : Int := (Builtin.Slice.sliceAdjust lo hi 1 (n : Int)).1
def slN (lo hi : Option Int) (n : Nat) : Nat := Builtin.Slice.slicePlaces (Builtin.Slice.sliceAdjust lo hi 1 (n : Int)).1 (Builtin.Slice.sliceAdjust lo hi 1 (n : Int)).2 1
theorem slN_le (lo hi : Option Int) (n : Nat) : slN lo hi n ≤ n := by
  have h1 : 0 ≤ (Builtin.Slice.sliceAdjust lo hi 1 (n : Int)).1 := by
    unfold Builtin.Slice.sliceAdjust
    cases lo with
    | none => simp
    | some v => dsimp only; split <;> omega
  have h2 : (Builtin.Slice.sliceAdjust lo hi 1 (n : Int)).2 ≤ n := by
    unfold Builtin.Slice.sliceAdjust
    cases hi with
    | none => simp
    | some v => dsimp only; split <;> omega
  unfold slN Builtin.Slice.slicePlaces
  rw [if_pos (by decide), Int.ediv_one]
  split <;> omega
theorem applied_any {sl : Addr} {v1 v2 : Value} {lo hi : Option Int} {n : Nat} {Q : Int × Int × Nat → Shared → Prop} (hs : s.heap.IsSliceOf sl v1 v2 .none) (p1 : IsPart v1 lo) (p2 : IsPart v2 hi) (h : Q (slLo lo hi n, 1, slN lo hi n) s) :
    wpAny (model prog w) A (Builtin.Slice.sliceApplied (.ref sl) (pure (n : Int))) Q E s := by
  obtain ⟨os, hos, hcs, hds⟩ := id hs
  unfold Builtin.Slice.sliceApplied Builtin.Slice.sliceFields
  refine wpAny_bind (wpAny_bind (wpAny_field hos hds (x := v1) rfl (wpAny_bind (wpAny_field hos hds (x := v2) rfl (wpAny_bind (wpAny_field hos hds (x := .none) rfl (wpAny_pure ?_)))))))
  refine wpAny_bind (slicePart_none ?_)
  show wpAny _ _ (if ((1 : Int) == 0) = true then _ else _) _ _ s
  rw [if_neg (by decide)]
  refine wpAny_bind (part_any p1 (wpAny_bind (part_any p2 (wpAny_bind (wpAny_pure ?_)))))
  exact wpAny_pure h
theorem getItem_tuple_any {t sl : Addr} {items : Array Value} {v1 v2 : Value} {lo hi : Option Int} {Q : Value → Shared → Prop} (ht : IsTup s.heap t items) (hs : s.heap.IsSliceOf sl v1 v2 .none) (p1 : IsPart v1 lo) (p2 : IsPart v2 hi)
    (h1 : (slLo lo hi items.size == 0 && (1 : Int) == 1 && slN lo hi items.size == items.size) = true → Q (.ref t) s)
    (h2 : ¬ (slLo lo hi items.size == 0 && (1 : Int) == 1 && slN lo hi items.size == items.size) = true → Q (.ref s.heap.objs.size) { s with heap := s.heap.push { cls := .type "tuple", data := .seq ((List.range (slN lo hi items.size)).filterMap fun (k : Nat) => items[(slLo lo hi items.size + (k : Int) * 1).toNat]?).toArray } })
    (hsz : items.size ≤ sizeLine) : wpAny (model prog w) A (getItem (.ref t) (.ref sl)) Q E s := by
  obtain ⟨os, hos, hcs, hds⟩ := id hs
  have hTs : s.TypeIs (.ref sl) "slice" := ⟨os, hos, hcs⟩
  unfold getItem
  refine wpAny_holding ?_
  refine wpAny_bind (wpAny_sequenceKey ht.typeIs (by decide) ?_)
  refine wpAny_bind (wpAny_callSpecial?_slot (name := Str.ofString "__getitem__") ht.typeIs slot_tuple_getitem
    (wpAny_call_entry slot_tuple_getitem ht.typeIs entry_tuple_getitem ?_ (args_tuple_getitem _ _)))
  show wpAny _ _ (Builtin.Tuple.tupleItemsOf (.ref t) >>= _) _ _ s
  refine wpAny_bind (tupleItemsOf_ ht ?_)
  refine wpAny_bind (wpAny_typeOf hTs ?_)
  rw [if_pos (by decide)]
  refine wpAny_bind (applied_any hs p1 p2 ?_)
  show wpAny _ _ (if (slLo lo hi items.size == 0 && (1 : Int) == 1 && slN lo hi items.size == items.size) = true then _ else _) _ _ s
  by_cases hw : (slLo lo hi items.size == 0 && (1 : Int) == 1 && slN lo hi items.size == items.size) = true
  · rw [if_pos hw]
    unfold Builtin.Tuple.tupleIsExact
    refine wpAny_bind (wpAny_bind (wpAny_typeOf ht.typeIs (wpAny_pure ?_)))
    rw [if_pos (by decide)]
    exact wpAny_bind (wpAny_rule (wpAny_bind (wpAny_pure (wpAny_pure ⟨_, rfl, wpAny_pure (h1 hw)⟩))))
  · rw [if_neg hw]
    refine wpAny_bind (m := Builtin.Tuple.tupleExact _) (wpAny_newObj_type (wpAny_pure ⟨_, rfl, wpAny_pure (h2 hw)⟩) ?_)
    show Array.size _ ≤ sizeLine
    rw [List.size_toArray]
    have := List.length_filterMap_le (fun (k : Nat) => items[(slLo lo hi items.size + (k : Int) * 1).toNat]?) (List.range (slN lo hi items.size))
    rw [List.length_range] at this
    exact Nat.le_trans this (Nat.le_trans (slN_le ..) hsz)
end
end L09
end Mine
end
section
open PySem PySem.W PyProof.Rows PySem.Calls
set_option maxRecDepth 100000
namespace Mine
namespace L09
open PySem.Challenge
open P9
section
variable {G : Gr} {n : Nat} {env : Env} {σ : St} {l : List Env}
theorem idx_raw {kd : Bool} {a : Addr} {vs : List Value} {ds : List D} {lo hi : D} (hT : Z.Th G.base kd a vs) (hs : Z.Says vs ds) (hl : lo.isPart = true) (hu : hi.isPart = true) (hz : ds.length ≤ sizeLine) :
    ∃ d', SeqItem G kd d' ∧ ∀ n, IdxD G n (.raw (.ref a)) (.slice lo hi .none) d' := by
  have hvl := hs.length
  cases kd with
  | true =>
    refine ⟨.list (pickD ds lo.part hi.part none), SeqItem.seq (kd := true), fun n ok A s E vo vi r k f ro ri => ?_⟩
    cases ro
    cases ri with
    | slice oi ei ci di r1 r2 r3 =>
      cases r3
      have lst : s.heap.IsList a vs.toArray := hT.keeps k
      refine wpAny_getItem_list_slice lst ⟨_, ei, ci, di⟩ (rep_part r1 hl) (rep_part r2 hu) .none nofun ?_ (by rw [List.size_toArray, hvl]; exact hz)
      have sp : Stp G.base s { s with heap := s.heap.push { cls := .type "list", data := .seq (slicePick vs.toArray lo.part hi.part none) } } := .push
      exact ⟨sp, .list (f _ fresh_get) ⟨_, Heap.get?_push_size _ rfl, rfl, 0, by simp⟩ (pick_rep (hs _ _) _ _ _)⟩
  | false =>
    by_cases hw : (slLo lo.part hi.part vs.length == 0 && (1 : Int) == 1 && slN lo.part hi.part vs.length == vs.length) = true
    · refine ⟨.raw (.ref a), SeqItem.raw hT, fun n ok A s E vo vi r k f ro ri => ?_⟩
      cases ro
      cases ri with
      | slice oi ei ci di r1 r2 r3 =>
        cases r3
        have tup : IsTup s.heap a vs.toArray := hT.keeps k
        refine getItem_tuple_any tup ⟨_, ei, ci, di⟩ (rep_part r1 hl) (rep_part r2 hu) (fun _ => ⟨.refl, .raw _⟩) (fun h => absurd (by simpa using hw) h) (by rw [List.size_toArray, hvl]; exact hz)
    · refine ⟨.tuple (((List.range (slN lo.part hi.part vs.length)).map fun (k : Nat) => (slLo lo.part hi.part vs.length + (k : Int) * 1).toNat).filterMap (ds[·]?)), SeqItem.seq (kd := false), fun n ok A s E vo vi r k f ro ri => ?_⟩
      cases ro
      cases ri with
      | slice oi ei ci di r1 r2 r3 =>
        cases r3
        have tup : IsTup s.heap a vs.toArray := hT.keeps k
        refine getItem_tuple_any tup ⟨_, ei, ci, di⟩ (rep_part r1 hl) (rep_part r2 hu) (fun h => absurd (by simpa using h) hw) (fun _ => ?_) (by rw [List.size_toArray, hvl]; exact hz)
        have e : ∀ h : Heap, RepAll ok h (((List.range (slN lo.part hi.part vs.toArray.size)).filterMap fun (k : Nat) => vs.toArray[(slLo lo.part hi.part vs.toArray.size + (k : Int) * 1).toNat]?).toArray).toList (((List.range (slN lo.part hi.part vs.length)).map fun (k : Nat) => (slLo lo.part hi.part vs.length + (k : Int) * 1).toNat).filterMap (ds[·]?)) := fun h => by
          have := repAll_filterMap (hs ok h) ((List.range (slN lo.part hi.part vs.length)).map fun (k : Nat) => (slLo lo.part hi.part vs.length + (k : Int) * 1).toNat)
          rw [List.filterMap_map] at this
          simpa [Function.comp_def] using this
        exact ⟨.push, .tuple (f _ fresh_get) ⟨_, Heap.get?_push_size _ rfl, rfl, 0, by simp⟩ (e _)⟩
theorem Ev.subR {o i : Expr} {p : Pos} {kd : Bool} {a : Addr} {vs : List Value} {di d : D} (hT : Z.Th G.base kd a vs) (ho : Ev G n env σ o (.raw (.ref a))) (hi : Ev G n env σ i di) (hx : IdxD G n (.raw (.ref a)) di d)
    (hs : ∀ a b, ∃ ops, subscripted i false a b = operate ops (getItem a b) := by intro a b; first | exact ⟨[a, b], rfl⟩ | exact ⟨[b, a], rfl⟩) : Ev G n env σ (.Subscript o i p) d := fun ok A s E r k iv =>
  Subscript_ (wpAny_mono (ho ok A s E r k iv) (fun vo s₁ p₁ => wpAny_mono (hi ok A s₁ E r (p₁.1.ext.base k) (iv.ext p₁.1.ext)) (fun vi s₂ p₂ => by
    have st := p₁.1.trans p₂.1
    obtain ⟨ops, hs⟩ := hs vo vi
    have hv : vo = .ref a := by obtain ⟨_, q⟩ := p₁; cases q; rfl
    subst hv
    have fin := wpAny_mono (hx _ A s₂ E _ vi r (st.ext.base k) (iv.ext st.ext).freshO (p₁.2.stp p₂.1) p₂.2) (fun v s' p₃ => (⟨st.trans p₃.1, p₃.2⟩ : Stp G.base s s' ∧ Rep (okO ok σ) s'.heap v d)) fun _ _ x => x
    have hT2 := hT.keeps (st.ext.base k)
    cases kd with
    | true => obtain ⟨ob, e, c, _⟩ := hT2; exact tail_any (T := "list") ⟨ob, e, c⟩ slot_list_getitem.lookup fin hs
    | false => obtain ⟨ob, e, c, _⟩ := hT2; exact tail_any (T := "tuple") ⟨ob, e, c⟩ slot_tuple_getitem.lookup fin hs) fun _ _ x => x) fun _ _ x => x)
theorem ExX.freeze {H : Around → Heap → Prop} {X : String} {msg : Str} {x : Str} {a : Addr} {ds : List D} {body : List Stmt} (l : σ.lookup x = some (.own a ds)) (h : ExX G n env H (setS x (.val (.list ds)) σ) body X msg) : ExX G n env H σ body X msg := fun ok A s q r k i =>
  wpAny_mono (h ok A s q r k (i.freeze l)) (fun _ _ z => z.elim) fun _ _ z => z.trans Stp.refl.mv fun b w => .inl (owned_setS_val w)
end
end L09
end Mine
end
section
open PySem PySem.W PyProof.Rows PySem.Calls
set_option maxRecDepth 100000
namespace Mine
namespace L09
open PySem.Challenge
open P9
def markOf : D → Option Nat
  | .tuple [.int p, .str x] => if x = "\"" then some p.toNat else none
  | _ => none
theorem bs_app (x : Str) : ("\\" ++ x : Str) ≠ "\"" := fun h => by
  have this : ("\\" ++ x : Str).cps.toList = (Str.ofString "\"").cps.toList := congrArg (fun y : Str => y.cps.toList) h
  have e : (("\\" ++ x : Str)).cps.toList = 92 :: x.cps.toList := by
    show ((Str.ofString "\\").cps ++ x.cps).toList = _
    rw [Array.toList_append]
    rfl
  have e2 : (Str.ofString "\"").cps.toList = [34] := rfl
  rw [e, e2] at this
  simp at this
theorem markOf_str (p : Int) (x : Str) : markOf (.tuple [.int p, .str x]) = if x = "\"" then some p.toNat else none := rfl
theorem markOf_itm (q : Nat) (i : P9.Itm) : markOf (.tuple [.int (q : Nat), itmD i]) = if isMk i then some q else none := by
  cases i with
  | num z => rfl
  | txt x =>
    show markOf (.tuple [.int (q : Nat), .str x]) = _
    rw [markOf_str]
    by_cases hx : x = "\""
    · have : isMk (.txt x) = true := decide_eq_true hx
      rw [if_pos hx, this]; rfl
    · have : isMk (.txt x) = false := decide_eq_false hx
      rw [if_neg hx, this]; rfl
theorem toks_marks : ∀ (r : List P9.Itm) (e : Bool) (p : Nat) (ms : List Nat), walk e p r = some ms → (toks9 e p r).filterMap markOf = ms
  | [], true, p, ms, h => by
    cases h
    show List.filterMap markOf [.tuple [.int ((p - 1 : Nat) : Int), .str "\\"]] = []
    rw [List.filterMap_cons]
    have : markOf (.tuple [.int ((p - 1 : Nat) : Int), .str "\\"]) = none := by
      rw [markOf_str, if_neg (by decide)]
    rw [this]; rfl
  | [], false, p, ms, h => by cases h; rfl
  | .num z :: r, true, p, ms, h => by cases h
  | .txt x :: r, true, p, ms, h => by
    have ih := toks_marks r false (p + 1) ms h
    show List.filterMap markOf (.tuple [.int (p : Nat), .str ("\\" ++ x)] :: toks9 false (p + 1) r) = ms
    rw [List.filterMap_cons]
    have : markOf (.tuple [.int (p : Nat), .str ("\\" ++ x)]) = none := by
      rw [markOf_str, if_neg (bs_app x)]
    rw [this]; exact ih
  | i :: r, false, p, ms, h => by
    rw [walk, if_neg (by decide)] at h
    rw [toks9]
    cases hb : isBs i with
    | true =>
      rw [hb, if_pos rfl] at h
      rw [if_pos rfl]
      exact toks_marks r true (p + 1) ms h
    | false =>
      rw [hb, if_neg (by decide)] at h
      rw [if_neg (by decide), List.filterMap_cons]
      cases i with
      | num z => exact toks_marks r false (p + 1) ms h
      | txt x =>
        rw [markOf_itm]
        cases e2 : isMk (.txt x) with
        | true =>
          rw [e2, if_pos rfl] at h
          cases q : walk false (p + 1) r with
          | none => rw [q] at h; cases h
          | some ms' =>
            rw [q] at h; cases h
            exact congrArg (p :: ·) (toks_marks r false (p + 1) ms' q)
        | false =>
          rw [e2, if_neg (by decide)] at h
          exact toks_marks r false (p + 1) ms h
theorem toks_form : ∀ (r : List P9.Itm) (e : Bool) (p : Nat) (d : D), d ∈ toks9 e p r → ∃ (q : Nat) (i : P9.Itm), d = .tuple [.int (q : Nat), itmD i]
  | [], true, p, d, h => ⟨p - 1, .txt "\\", List.mem_singleton.mp h⟩
  | [], false, p, d, h => nomatch h
  | .num z :: r, true, p, d, h => nomatch h
  | .txt x :: r, true, p, d, h => by
    rcases List.mem_cons.mp h with h | h
    · exact ⟨p, .txt ("\\" ++ x), h⟩
    · exact toks_form r false (p + 1) d h
  | i :: r, false, p, d, h => by
    rw [toks9] at h
    split at h
    · exact toks_form r true (p + 1) d h
    · rcases List.mem_cons.mp h with h | h
      · exact ⟨p, i, h⟩
      · exact toks_form r false (p + 1) d h
theorem toks9_length : ∀ (r : List P9.Itm) (e : Bool) (p : Nat), (toks9 e p r).length ≤ r.length + 1
  | [], true, p => by simp [toks9]
  | [], false, p => by simp [toks9]
  | .num z :: r, true, p => by simp [toks9]
  | .txt x :: r, true, p => by have := toks9_length r false (p + 1); simp [toks9]; omega
  | i :: r, false, p => by
    rw [toks9]
    split
    · have := toks9_length r true (p + 1); simp; omega
    · have := toks9_length r false (p + 1); simp; omega
abbrev SS9 := Nat × Option Nat × Bool
def stp (st : SS9) (m : Nat) : SS9 := match st with
  | (s, none, b) => (s, some m, b)
  | (s, some o, b) => (m + 1, none, b || decide (s ≠ o))
theorem stp_bare (n : Nat) : ∀ (ms : List Nat) (s : Nat) (b : Bool), ((ms.foldl stp (s, none, b)).2.2 || decide ((ms.foldl stp (s, none, b)).1 < n)) = (b || !bare n s ms)
  | [], s, b => by
    show (b || decide (s < n)) = (b || !decide (¬ s < n))
    by_cases h : s < n <;> simp [h]
  | [m], s, b => by
    show (b || decide (s < n)) = (b || !decide (¬ s < n))
    by_cases h : s < n <;> simp [h]
  | m :: c :: r, s, b => by
    have ih := stp_bare n r (c + 1) (b || decide (s ≠ m))
    show ((r.foldl stp (c + 1, none, b || decide (s ≠ m))).2.2 || decide ((r.foldl stp (c + 1, none, b || decide (s ≠ m))).1 < n)) = (b || !(decide (s = m) && bare n (c + 1) r))
    rw [ih]
    by_cases h : s = m <;> simp [h]
theorem eqb_mk (i : P9.Itm) : (itmD i).eqb (.str "\"") = isMk i := by
  cases i with
  | num z => rfl
  | txt x => rfl
theorem any_mk (its : List P9.Itm) : ((its.map itmD).any fun y => y.eqb (.str "\"")) = its.any isMk := by
  rw [List.any_map]
  congr 1
  funext i
  exact eqb_mk i
theorem its_data (kd : Bool) {its : List P9.Itm} (hf : ∀ i ∈ its, Fine i) : (seqD kd (its.map itmD)).data 1 = true := by
  have go : ∀ its : List P9.Itm, (∀ i ∈ its, Fine i) → D.datas 0 (its.map itmD) = true := by
    intro its
    induction its with
    | nil => intro _; rfl
    | cons i r ih =>
      intro h
      show (D.data 0 (itmD i) && D.datas 0 (r.map itmD)) = true
      rw [ih fun j hj => h j (.tail _ hj), Bool.and_true]
      have := h i (.head _)
      cases i with
      | num z => rfl
      | txt x => exact this.2
  cases kd with
  | true => exact go its hf
  | false => exact go its hf
end L09
end Mine
end
section
open PySem PySem.W PyProof.Rows PySem.Calls
set_option maxRecDepth 100000
namespace Mine
namespace L09
open PySem.Challenge
open P9
section
variable {G : Gr} {n : Nat} {env : Env} {σ : St} {l : List Env}
/-- a thing: a row of items that stands -/
structure Thing (G : Gr) (kd : Bool) (a : Addr) (its : List P9.Itm) : Prop where
  th : ∃ vs, Z.Th G.base kd a vs ∧ Z.Says vs (its.map itmD)
  fine : ∀ i ∈ its, Fine i
  short : its.length ≤ 1000
def stripS (a : Addr) (st : SS9) (r : Addr) (rs : List D) : St := [("addr", .val (.raw (.ref a))), ("start", .val (.int (st.1 : Nat))), ("open_pos", .val (optD st.2.1)), ("result", .own r rs)]
/-- between two turns -/
structure RowsOk (G : Gr) (kd : Bool) (st : SS9) (k : Nat) (rs : List D) : Prop where
  len : rs.length ≤ k
  emp : rs.isEmpty = !st.2.2
  all : ∀ d ∈ rs, SeqItem G kd d
def StripJ (G : Gr) (kd : Bool) (a : Addr) (ts : List D) (i : Nat) (σ : St) : Prop := ∃ r rs, Sub (stripS a (((ts.take i).filterMap markOf).foldl stp (0, none, false)) r rs) σ ∧ RowsOk G kd (((ts.take i).filterMap markOf).foldl stp (0, none, false)) i rs
set_option maxHeartbeats 4000000 in
theorem strip_turn {its : List P9.Itm} {kd : Bool} {a : Addr} {ts : List D} {i : Nat} {d : D} {σ₁ : St} (TH : Thing G kd a its) (hts : ts = toks9 false 0 its) (FE : FEnv env (df 2).scope) (hd : ts[i]? = some d) (hJ : StripJ G kd a ts i σ₁) {body : List Stmt} (hbody : body = (match (df 2).body.drop 4 with | .For _ _ b _ _ :: _ => b | _ => [])) :
    Ex G n env (pairS "pos" "ch" d σ₁) body fun fl σ₂ => fl = .next ∧ StripJ G kd a ts (i + 1) σ₂ := by
  subst hbody
  obtain ⟨vs, hT, hs⟩ := TH.th
  have hlen : (its.map itmD).length ≤ sizeLine := by rw [List.length_map]; exact sz (by have := TH.short; omega)
  obtain ⟨q, it, rfl⟩ := toks_form its false 0 d (by rw [← hts]; exact List.mem_of_getElem? hd)
  have hlt : i < ts.length := (List.getElem?_eq_some_iff.mp hd).1
  have hil : i ≤ 1000 := by
    have h1 := toks9_length its false 0
    rw [← hts] at h1
    have := TH.short
    omega
  have htk : (ts.take (i + 1)).filterMap markOf = (ts.take i).filterMap markOf ++ (if isMk it then [q] else []) := by
    rw [List.take_add_one, hd, List.filterMap_append]
    congr 1
    show List.filterMap markOf [.tuple [.int (q : Nat), itmD it]] = _
    rw [List.filterMap_cons, markOf_itm]
    cases isMk it <;> rfl
  obtain ⟨r, rs, hsub, hr⟩ := hJ
  unfold StripJ
  rw [htk, List.foldl_append]
  generalize ((ts.take i).filterMap markOf).foldl stp (0, none, false) = st at *
  obtain ⟨start, op, b⟩ := st
  have hsub' : Sub [("addr", .val (.raw (.ref a))), ("start", .val (.int (start : Nat))), ("open_pos", .val (optD op)), ("result", .own r rs), ("pos", .val (.int (q : Nat))), ("ch", .val (itmD it))] (pairS "pos" "ch" (.tuple [.int (q : Nat), itmD it]) σ₁) := by
    have h1 := Sub.set (x := "pos") (s := .val (.int (q : Nat))) hsub (by simp [stripS]; decide)
    have h2 := Sub.set (x := "ch") (s := .val (itmD it)) h1 (by simp [stripS]; decide)
    exact ⟨h2.1, h2.2.1, h2.2.2.1, h2.2.2.2.1, (lookup_setS_ne (x := "ch") (y := "pos") (by decide) _).trans (lookup_setS_self _), lookup_setS_self _, trivial⟩
  refine Ex.only hsub' ?_
  have hrl := hr.len
  cases hm : isMk it with
  | false =>
    have htr : Tr G n env [("addr", .val (.raw (.ref a))), ("start", .val (.int (start : Nat))), ("open_pos", .val (optD op)), ("result", .own r rs), ("pos", .val (.int (q : Nat))), ("ch", .val (itmD it))] (match (match (df 2).body.drop 4 with | .For _ _ b _ _ :: _ => b | _ => []) with | [.If t _ _ _] => t | _ => .Constant .none 0 ⟨0, 0, 0, 0⟩) false := by
      cases it with
      | num z => exact Tr.cmp (Ev.name rfl).b Ev.str.b (CmpD.eq_int_str (by decide +kernel))
      | txt x => exact (Tr.cmp (Ev.name rfl).b Ev.str.b .eq_str).cast hm
    refine Ex.cons (Ex1.ite (c := false) htr nofun (fun _ => Ex.nil (Ex.nil ⟨rfl, r, rs, ⟨rfl, rfl, rfl, rfl, trivial⟩, ⟨by omega, hr.emp, hr.all⟩⟩)))
  | true =>
    cases it with
    | num z => cases hm
    | txt x =>
      have hx := of_decide_eq_true hm
      subst hx
      refine Ex.cons (Ex1.ite (c := true) ((Tr.cmp (Ev.name rfl).b Ev.str.b .eq_str).cast rfl) (fun _ => ?_) nofun)
      cases op with
      | none =>
        refine Ex.cons (Ex1.ite (c := true) ((Tr.cmp (Ev.name rfl).b Ev.none.b .none_is)) (fun _ => ?_) nofun)
        exact Ex.one (Ex1.assign (.name rfl) (FE.loc rfl)) (Ex.nil (Ex.nil (Ex.nil ⟨rfl, r, rs, ⟨rfl, rfl, rfl, rfl, trivial⟩, ⟨by omega, hr.emp, hr.all⟩⟩)))
      | some o =>
        refine Ex.cons (Ex1.ite (c := false) ((Tr.cmp (Ev.name rfl).b Ev.none.b .int_is)) nofun (fun _ => ?_))
        by_cases hso : start = o
        · subst hso
          refine Ex.cons (Ex1.ite (c := false) ((Tr.cmp (Ev.name rfl).b (Ev.name rfl).b .ne_int).cast (by simp)) nofun (fun _ => Ex.nil ?_))
          refine Ex.one (Ex1.assign (.binop (.name rfl) .int .add) (FE.loc rfl)) ?_
          refine Ex.one (Ex1.assign .none (FE.loc rfl)) (Ex.nil (Ex.nil (Ex.nil ⟨rfl, r, rs, ⟨rfl, rfl, rfl, rfl, trivial⟩, ⟨by omega, ?_, hr.all⟩⟩)))
          rw [hr.emp]; simp [stp]
        · obtain ⟨d', hsq, hidx⟩ := idx_raw (lo := .int (start : Nat)) (hi := .int (o : Nat)) hT hs rfl rfl hlen
          refine Ex.cons (Ex1.ite (c := true) ((Tr.cmp (Ev.name rfl).b (Ev.name rfl).b .ne_int).cast (by simp; omega)) (fun _ => ?_) nofun)
          refine Ex.one (Ex1.append (d := d') rfl (Ev.subR hT (.name rfl) (.slice (.some (.name rfl)) (.some (.name rfl)) .none) (hidx _)) (by unfold sizeLine; omega)) (Ex.nil ?_)
          refine Ex.one (Ex1.assign (.binop (.name rfl) .int .add) (FE.loc rfl)) ?_
          refine Ex.one (Ex1.assign .none (FE.loc rfl)) (Ex.nil (Ex.nil (Ex.nil ⟨rfl, r, rs ++ [d'], ⟨rfl, rfl, rfl, rfl, trivial⟩, ⟨by simp; omega, ?_, fun d hd => ?_⟩⟩)))
          · simp [stp, hso]
          · rcases List.mem_append.mp hd with hd | hd
            · exact hr.all d hd
            · rw [List.mem_singleton.mp hd]; exact hsq
end
end L09
end Mine
end
section
open PySem PySem.W PyProof.Rows PySem.Calls
set_option maxRecDepth 100000
namespace Mine
namespace L09
open PySem.Challenge
open P9
section
variable {G : Gr} {n : Nat} {env : Env} {σ : St} {l : List Env}
theorem mk_test {its : List P9.Itm} {kd : Bool} {a : Addr} {p1 p2 p3 : Pos} {k : Nat} (TH : Thing G kd a its) : Tr G n env [("addr", .val (.raw (.ref a)))] (.Compare (.Constant (.str "\"") k p1) [.NotIn] [.Name "addr" p2] p3) (!its.any isMk) := by
  obtain ⟨vs, hT, hs⟩ := TH.th
  exact (Tr.cmp Ev.str.b (Ev.name rfl).b (notIn_raw hT hs (its_data kd TH.fine) (by decide +kernel))).cast (by rw [any_mk])
theorem strip_same {its : List P9.Itm} {kd : Bool} {a : Addr} (TH : Thing G kd a its) (hm : its.any isMk = false) {aS : Addr} (F : FnAt G (df 2) aS) : CallD G (n + 1) (.ref aS) [.raw (.ref a)] (.raw (.ref a)) := by
  refine CallD.fn1 (x := "addr") F (fun env FE => ?_)
  refine Ex.cons (Ex1.ite (c := true) ((mk_test TH).cast (by rw [hm]; rfl)) (fun _ => ?_) nofun)
  exact Ex.cons (Ex1.ret (Ev.name rfl).b rfl)
theorem strip0 {its : List P9.Itm} {kd : Bool} {a a₀ : Addr} : StripJ G kd a (toks9 false 0 its) 0 (setS "result" (.own a₀ []) (setS "open_pos" (.val .none) (setS "start" (.val (.int 0)) [("addr", .val (.raw (.ref a)))]))) :=
  ⟨a₀, [], ⟨rfl, rfl, rfl, rfl, trivial⟩, ⟨Nat.le_refl _, rfl, nofun⟩⟩
set_option maxHeartbeats 4000000 in
theorem strip_cat {its : List P9.Itm} {kd : Bool} {a : Addr} (T : Pj G) (TH : Thing G kd a its) (hm : its.any isMk = true) (hw : walk false 0 its = none) {aS : Addr} (F : FnAt G (df 2) aS) : CallX G (n + 2) (.ref aS) [.raw (.ref a)] "TypeError" msgCat := by
  obtain ⟨ai, FI⟩ := T.iter
  obtain ⟨vs, hT, hs⟩ := TH.th
  refine Mine.CallX.fn1 (x := "addr") F fun env l FE => ?_
  have R : Rd G.base env (fpS l) (HS G.base env l) := rdS
  refine ExX.one R (.of (Ex1.ite (c := false) ((mk_test TH).cast (by rw [hm]; rfl)) nofun (fun _ => Ex.nil ⟨rfl, rfl⟩))) ?_
  refine ExX.one R (.of (Ex1.assign .int (FE.loc rfl))) ?_
  refine ExX.one R (.of (Ex1.assign .none (FE.loc rfl))) ?_
  refine ExX.step R (.of (Ex1.assignF (EvF.list .nil (by decide)) (FE.loc rfl))) ?_
  rintro _ ⟨a₀, rfl⟩
  refine ExX.head (Z.ExX1.forZ (f := pairS "pos" "ch") (ds := toks9 false 0 its) ?_ ?_ (StripJ G kd a (toks9 false 0 its)) strip0 (fun i d σ₁ hd hJ => strip_turn TH rfl FE hd hJ rfl))
  · have e : rzOf (walk false 0 its).isNone = some ("TypeError", msgCat) := by rw [hw]; rfl
    rw [← e]
    exact gen9_ok T hT hs TH.fine FI (FE.kind rfl) (Ev.name rfl)
  · intro d hd
    obtain ⟨q, it, rfl⟩ := toks_form its false 0 d hd
    exact .pair (FE.loc rfl) (FE.loc rfl)
/-- behind the loop -/
structure Left (G : Gr) (kd : Bool) (its : List P9.Itm) (a r : Addr) (start : Nat) (rs : List D) (σ : St) : Prop where
  sub : Sub [("addr", .val (.raw (.ref a))), ("start", .val (.int (start : Nat))), ("result", .own r rs)] σ
  len : rs.length ≤ 2000
  all : ∀ d ∈ rs, SeqItem G kd d
theorem left_of {its : List P9.Itm} {kd : Bool} {a : Addr} {ms : List Nat} {σ : St} (TH : Thing G kd a its) (hw : walk false 0 its = some ms) (hJ : StripJ G kd a (toks9 false 0 its) (toks9 false 0 its).length σ) :
    ∃ r start rs, Left G kd its a r start rs σ ∧ (rs.isEmpty && decide (¬ start < its.length)) = bare its.length 0 ms := by
  obtain ⟨r, rs, hsub, hr⟩ := hJ
  rw [List.take_length, toks_marks its false 0 ms hw] at hsub hr
  have hb := stp_bare its.length ms 0 false
  generalize ms.foldl stp (0, none, false) = st at *
  obtain ⟨start, op, b⟩ := st
  refine ⟨r, start, rs, ⟨⟨hsub.1, hsub.2.1, hsub.2.2.2.1, trivial⟩, ?_, hr.all⟩, ?_⟩
  · have := hr.len
    have h1 := toks9_length its false 0
    have := TH.short
    omega
  · rw [hr.emp]
    dsimp only at hb ⊢
    have hb' : bare its.length 0 ms = !(b || decide (start < its.length)) := by rw [hb]; simp
    rw [hb']
    by_cases h : start < its.length <;> simp [h]
set_option maxHeartbeats 4000000 in
theorem strip_ans {its : List P9.Itm} {kd : Bool} {a : Addr} {ms : List Nat} (T : Pj G) (TH : Thing G kd a its) (hm : its.any isMk = true) (hw : walk false 0 its = some ms) (hb : bare its.length 0 ms = true) {aS : Addr} (F : FnAt G (df 2) aS) : CallP G (n + 2) (.ref aS) [.raw (.ref a)] (.str "") := by
  obtain ⟨ai, FI⟩ := T.iter
  obtain ⟨vs, hT, hs⟩ := TH.th
  refine CallP.fn1 (x := "addr") F fun env l FE => ?_
  have R : Rd G.base env (fpS l) (HS G.base env l) := rdS
  refine ExP.one R (.of (Ex1.ite (c := false) ((mk_test TH).cast (by rw [hm]; rfl)) nofun (fun _ => Ex.nil ⟨rfl, rfl⟩))) ?_
  refine ExP.one R (.of (Ex1.assign .int (FE.loc rfl))) ?_
  refine ExP.one R (.of (Ex1.assign .none (FE.loc rfl))) ?_
  refine ExP.step R (.of (Ex1.assignF (EvF.list .nil (by decide)) (FE.loc rfl))) ?_
  rintro _ ⟨a₀, rfl⟩
  refine ExP.step R (Z.ExP1.forZ (f := pairS "pos" "ch") (ds := toks9 false 0 its) ?_ ?_ (StripJ G kd a (toks9 false 0 its)) strip0 (fun i d σ₁ hd hJ => strip_turn TH rfl FE hd hJ rfl)) ?_
  · have e : rzOf (walk false 0 its).isNone = none := by rw [hw]; rfl
    rw [← e]
    exact gen9_ok T hT hs TH.fine FI (FE.kind rfl) (Ev.name rfl)
  · intro d hd
    obtain ⟨q, it, rfl⟩ := toks_form its false 0 d hd
    exact .pair (FE.loc rfl) (FE.loc rfl)
  · intro σ₁ hJ
    obtain ⟨r, start, rs, L, hbare⟩ := left_of TH hw hJ
    rw [hb, Bool.and_eq_true] at hbare
    have hrs : rs = [] := List.isEmpty_iff.mp hbare.1
    have hst : ¬ start < its.length := of_decide_eq_true hbare.2
    subst hrs
    refine ExP.only L.sub (.of ?_)
    have hlen := len_raw (n := n + 1) hT hs (by rw [List.length_map]; have := TH.short; omega)
    refine Ex.cons (Ex1.ite (c := false) ((Tr.cmp (Ev.name rfl).b (Ev.call (.builtin (FE.kind rfl) T.len rfl) (.builtin _) (.cons (.name rfl) .nil) hlen).b .lt_int).cast (by rw [List.length_map]; simp; omega)) nofun (fun _ => Ex.nil ?_))
    exact Ex.cons (Ex1.ret ((Ev.methB (ds := [.list (([] : List Str).map .str)]) Ev.str.b .join (.builtin _) (.cons (EvB.own rfl) .nil) (.join (x := Str.ofString "") (by decide)) rfl).cast rfl).b rfl)
set_option maxHeartbeats 4000000 in
theorem join_ret {kd : Bool} {r : Addr} {d : D} {rs : List D} {σ : St} (hd : SeqItem G kd d) (hl : σ.lookup ("result" : Str) = some (.own r (d :: rs))) (body : List Stmt) (hbody : body = (df 2).body.drop 6) :
    ExX G n env (HS G.base env l) σ body "TypeError" (msgJoin kd) := by
  subst hbody
  exact ExX.freeze hl (ExX.head (ExX1.ret (EvX.meth rdS tellsS Ev.str .join (.builtin _) (.cons (Ev.name (lookup_setS_self _)) .nil) (CallX.join_seq hd))))
set_option maxHeartbeats 4000000 in
theorem strip_join {its : List P9.Itm} {kd : Bool} {a : Addr} {ms : List Nat} (T : Pj G) (TH : Thing G kd a its) (hm : its.any isMk = true) (hw : walk false 0 its = some ms) (hb : bare its.length 0 ms = false) {aS : Addr} (F : FnAt G (df 2) aS) : CallX G (n + 2) (.ref aS) [.raw (.ref a)] "TypeError" (msgJoin kd) := by
  obtain ⟨ai, FI⟩ := T.iter
  obtain ⟨vs, hT, hs⟩ := TH.th
  refine Mine.CallX.fn1 (x := "addr") F fun env l FE => ?_
  have R : Rd G.base env (fpS l) (HS G.base env l) := rdS
  refine ExX.one R (.of (Ex1.ite (c := false) ((mk_test TH).cast (by rw [hm]; rfl)) nofun (fun _ => Ex.nil ⟨rfl, rfl⟩))) ?_
  refine ExX.one R (.of (Ex1.assign .int (FE.loc rfl))) ?_
  refine ExX.one R (.of (Ex1.assign .none (FE.loc rfl))) ?_
  refine ExX.step R (.of (Ex1.assignF (EvF.list .nil (by decide)) (FE.loc rfl))) ?_
  rintro _ ⟨a₀, rfl⟩
  refine ExX.step R (Z.ExP1.forZ (f := pairS "pos" "ch") (ds := toks9 false 0 its) ?_ ?_ (StripJ G kd a (toks9 false 0 its)) strip0 (fun i d σ₁ hd hJ => strip_turn TH rfl FE hd hJ rfl)) ?_
  · have e : rzOf (walk false 0 its).isNone = none := by rw [hw]; rfl
    rw [← e]
    exact gen9_ok T hT hs TH.fine FI (FE.kind rfl) (Ev.name rfl)
  · intro d hd
    obtain ⟨q, it, rfl⟩ := toks_form its false 0 d hd
    exact .pair (FE.loc rfl) (FE.loc rfl)
  · intro σ₁ hJ
    obtain ⟨r, start, rs, L, hbare⟩ := left_of TH hw hJ
    rw [hb] at hbare
    refine ExX.only L.sub ?_
    have hlen := len_raw (n := n + 1) hT hs (by rw [List.length_map]; have := TH.short; omega)
    by_cases hst : start < its.length
    · obtain ⟨d', hsq, hidx⟩ := idx_raw (lo := .int (start : Nat)) (hi := .none) hT hs rfl rfl (by rw [List.length_map]; exact sz (by have := TH.short; omega))
      refine ExX.one (σ' := setS "result" (.own r (rs ++ [d'])) [("addr", .val (.raw (.ref a))), ("start", .val (.int (start : Nat))), ("result", .own r rs)]) R (.of (Ex1.ite (c := true) ((Tr.cmp (Ev.name rfl).b (Ev.call (.builtin (FE.kind rfl) T.len rfl) (.builtin _) (.cons (.name rfl) .nil) hlen).b .lt_int).cast (by rw [List.length_map]; simp; omega)) (fun _ => ?_) nofun)) ?_
      · refine Ex.one (Ex1.append (d := d') rfl (Ev.subR hT (.name rfl) (.slice (.some (.name rfl)) .none .none) (hidx _)) (by have := L.len; unfold sizeLine; omega)) (Ex.nil ⟨rfl, rfl⟩)
      · obtain ⟨e, rs', he, hse⟩ : ∃ e rs', rs ++ [d'] = e :: rs' ∧ SeqItem G kd e := by
          cases rs with
          | nil => exact ⟨d', [], rfl, hsq⟩
          | cons e r => exact ⟨e, r ++ [d'], rfl, L.all e (.head _)⟩
        rw [he]
        exact join_ret hse rfl _ rfl
    · obtain ⟨e, rs', he, hse⟩ : ∃ e rs', rs = e :: rs' ∧ SeqItem G kd e := by
        cases rs with
        | nil => simp [hst] at hbare
        | cons e r => exact ⟨e, r, rfl, L.all e (.head _)⟩
      refine ExX.one R (.of (Ex1.ite (c := false) ((Tr.cmp (Ev.name rfl).b (Ev.call (.builtin (FE.kind rfl) T.len rfl) (.builtin _) (.cons (.name rfl) .nil) hlen).b .lt_int).cast (by rw [List.length_map]; simp; omega)) nofun (fun _ => Ex.nil ⟨rfl, rfl⟩))) ?_
      subst he
      exact join_ret hse rfl _ rfl
end
end L09
end Mine
end
section
open PySem PySem.W PyProof.Rows PySem.Calls
set_option maxRecDepth 100000
namespace Mine
namespace L09
open PySem.Challenge
open P9
structure Tp (G : Gr) : Prop extends Pj G where
  range : G.mg "range" = none
  divmod : G.mg "divmod" = none
  chr : G.mg "chr" = none
  tuple : G.mg "tuple" = none
  bytes : G.mg "bytes" = none
  str : G.mg "str" = none
  int : G.mg "int" = none
  isi : G.mg "isinstance" = none
  te : G.mg "TypeError" = none
  preF : ∃ a, FnAt G (df 4) a
  sign : ∃ a, FnAt G (df 6) a
  item : ∃ a, FnAt G (df 7) a
  odd : ∃ a, FnAt G (df 8) a
  want : ∃ a, FnAt G (df 9) a
  told : ∃ a, FnAt G (df 10) a
theorem Tp.grow {G : Gr} {b : Heap} {k : G.base.StaysIn b} (T : Tp G) : Tp (G.grow b k) :=
  { len := T.len, enum := T.enum, iter := T.iter.imp fun _ F => F.grow, strip := T.strip.imp fun _ F => F.grow, check := T.check.imp fun _ F => F.grow, range := T.range, divmod := T.divmod, chr := T.chr, tuple := T.tuple, bytes := T.bytes, str := T.str, int := T.int, isi := T.isi, te := T.te,
    preF := T.preF.imp fun _ F => F.grow, sign := T.sign.imp fun _ F => F.grow, item := T.item.imp fun _ F => F.grow, odd := T.odd.imp fun _ F => F.grow, want := T.want.imp fun _ F => F.grow, told := T.told.imp fun _ F => F.grow }
section
variable {G : Gr} {n : Nat} {env : Env} {σ : St} {l : List Env}
theorem CallP.of {f : Value} {ds : List D} {d : D} (h : CallD G n f ds d) : CallP G n f ds d := fun ok A s E vs l r k fr K rs => h ok A s E vs r k fr rs
/-- the thing makes the project's first function raise -/
def Raises (G : Gr) (n : Nat) (d : D) (msg : Str) : Prop := ∀ aS, FnAt G (df 2) aS → CallX G n (.ref aS) [d] "TypeError" msg
theorem check_x {d : D} {msg : Str} (T : Pj G) (h : Raises G n d msg) {a : Addr} (F : FnAt G (df 3) a) : CallX G (n + 1) (.ref a) [d] "TypeError" msg := by
  obtain ⟨as, FS⟩ := T.strip
  exact Mine.CallX.fn1 (x := "addr") F fun env l FE => ExX.head (ExX1.assign (EvX.call rdS tellsS (fn_ev FS (FE.kind rfl)) FS.callee (.cons rdS (.of (.name rfl)) .nil) (h as FS)))
theorem strip_paren {a : Addr} (F : FnAt G (df 2) a) : CallD G (n + 1) (.ref a) [.str "("] (.str "(") := by
  refine CallD.fn1 (x := "addr") F (fun env FE => ?_)
  refine Ex.cons (Ex1.ite (c := true) ((Tr.cmp Ev.str.b (Ev.name rfl).b .notIn_str).cast (by decide +kernel)) (fun _ => ?_) nofun)
  exact Ex.cons (Ex1.ret (Ev.name rfl).b rfl)
def parD : D := .tuple [.int 0, .str "("]
theorem one_get {i : Nat} {d : D} (h : ([parD] : List D)[i]? = some d) : i = 0 ∧ d = parD := by
  cases i with
  | zero => exact ⟨rfl, (Option.some.inj h).symm⟩
  | succ i => simp at h
theorem gen_paren {e target : Expr} {p pos : Pos} (T : Pj G) {ai : Addr} (F : FnAt G (df 1) ai) (hk : env.kindOf (df 1).name = some .globalImplicit) (h : Ev G (n + 1) env σ e (.str "("))
    (hns : noStar [e] = true := by rfl) (hplain : (backTo pos (starEach [e] env)).any (·.1) = false := by rfl) (he : starEach [e] env = (false, eval e env) :: starEach [] env := by rfl) :
    Z.EvIZ G (n + 1) env l σ (.Call (.Name (df 1).name p) [e] [] pos) target [parD] none := by
  refine Z.EvIZ.gen1 (x := "addr") F hk h rfl nofun (fun env' A' okc g KF HF FE L0 hH hKF => ?_) (hns := hns) (hplain := hplain) (he := he)
  refine Z.Gs.cons (Z.Gs.assign L0.room L0.stable .int (FE.loc rfl) rfl ?_)
  refine Z.Gs.cons (Z.Gs.assign L0.room L0.stable .bool (FE.loc rfl) rfl ?_)
  refine Z.Gs.cons (Z.Gs.forA (ι := Unit) (f := pairS "pos" "ch") (es := [parD]) (fun i _ => [("addr", .val (.str "(")), ("escape", .val (.bool false))]) (fun i _ => True) (fun i _ => if i = 0 then [parD] else []) () L0 rfl nofun trivial ⟨rfl, rfl, trivial⟩ (fun _ _ => rfl)
    (.enumS (x := "(") (FE.kind rfl) T.enum (.name rfl)) ?_ (fun d i p => ?_) ?_ ?_ (fun _ _ _ _ _ _ _ => trivial))
  · intro d hd
    rw [List.mem_singleton.mp hd]
    exact .pair (FE.loc rfl) (FE.loc rfl)
  · unfold pairS
    split <;> rfl
  · intro c' fs' FR' Res' KL HL i d b L hHL hd hb next
    obtain ⟨rfl, rfl⟩ := one_get hd
    refine Z.Gs.cons (Z.Gs.ite L.room L.stable (Tr.plain (Ev.name rfl).b .bool) nofun (fun _ => ?_))
    refine Z.Gs.cons (Z.Gs.ite (x := false) L.room L.stable ((Tr.cmp (Ev.name rfl).b Ev.str.b .eq_str).cast (by decide)) nofun (fun _ => ?_))
    refine Z.Gs.cons (Z.Gs.yield (σ' := [("addr", .val (.str "(")), ("escape", .val (.bool false))]) (d := parD) L.room L.stable L.split rfl L.quiet (Ev.tuple (.cons (.name rfl) (.cons (.name rfl) .nil)) (sz (by simp))) ⟨rfl, rfl, trivial⟩ rfl (by rw [FE.scope]; rfl) ?_)
    exact Z.Gs.nil (Z.Gs.nil (Z.Gs.nil (gsOf (next () trivial) ⟨rfl, rfl, trivial⟩)))
  · intro _ _
    refine Z.Gs.cons (Z.Gs.ite L0.room L0.stable (Tr.plain (Ev.name rfl).b .bool) nofun (fun _ => ?_))
    exact Z.Gs.nil (Z.Gs.nil (Z.Gs.fin hKF))
theorem check_paren (T : Pj G) {a : Addr} (F : FnAt G (df 3) a) : CallP G (n + 2) (.ref a) [.str "("] (.bool false) := by
  obtain ⟨ai, FI⟩ := T.iter
  obtain ⟨as, FS⟩ := T.strip
  refine CallP.fn1 (x := "addr") F fun env l FE => ?_
  have R : Rd G.base env (fpS l) (HS G.base env l) := rdS
  refine ExP.one R (.of (Ex1.assign (.call (fn_ev FS (FE.kind rfl)) FS.callee (.cons (.name rfl) .nil) (strip_paren FS)) (FE.loc rfl))) ?_
  refine ExP.one R (.of (Ex1.assign .int (FE.loc rfl))) ?_
  refine ExP.step R (Z.ExP1.forZ (f := pairS "pos" "ch") (ds := [parD]) (gen_paren T FI (FE.kind rfl) (.name rfl)) (fun d hd => ?_) (fun i σ => Sub [("opens", .val (.int (i : Nat)))] σ) ⟨rfl, trivial⟩ (fun i d σ₁ hd hJ => ?_)) ?_
  · rw [List.mem_singleton.mp hd]; exact .pair (FE.loc rfl) (FE.loc rfl)
  · obtain ⟨rfl, rfl⟩ := one_get hd
    have h1 := Sub.set (x := "pos") (s := .val (.int 0)) hJ (by simp; decide)
    have h2 := Sub.set (x := "ch") (s := .val (.str "(")) h1 (by simp; decide)
    refine Ex.only (σ₀ := [("opens", .val (.int 0)), ("ch", .val (.str "("))]) ⟨h2.1, lookup_setS_self _, trivial⟩ ?_
    refine Ex.cons (Ex1.ite (c := true) ((Tr.cmp (Ev.name rfl).b Ev.str.b .eq_str).cast rfl) (fun _ => ?_) nofun)
    exact Ex.one (Ex1.aug rfl .int (FE.loc rfl) (.inl ⟨rfl, rfl⟩)) (Ex.nil (Ex.nil ⟨rfl, rfl, trivial⟩))
  · intro σ₁ hJ
    refine ExP.only hJ (.of ?_)
    exact Ex.cons (Ex1.ret (Ev.cmp (Ev.name rfl).b Ev.int.b .eq_int).b rfl)
theorem TrP.not {H : Around → Heap → Prop} {e : Expr} {p : Pos} {c : Bool} (h : TrP G n env H σ e c) : TrP G n env H σ (.UnaryOp .Not e p) (!c) := fun ok A s E q r k i =>
  isTrue_not (wpAny_mono (h ok A s E q r k i) (fun _ _ p => ⟨p.1, by rw [p.2]⟩) fun _ _ x => x)
theorem TrP.bool {H : Around → Heap → Prop} {e : Expr} {c : Bool} (h : EvP G n env H σ e (.bool c))
    (he : ∀ whole, isTrue e env whole = (do let v ← whole; standAt e.pos; holding [v] (truthy v)) := by intro _; rfl) : TrP G n env H σ e c := fun ok A s E q r k i =>
  isTrue_plain (wpAny_mono (h ok A s E q r k i) (fun v s₁ p₁ => by
    obtain ⟨st, rp⟩ := p₁
    cases rp
    exact wpAny_truthy_bool ⟨st, rfl⟩) fun _ _ x => x) (he _)
set_option maxHeartbeats 4000000 in
theorem pre_x {d : D} {msg : Str} (T : Pj G) (h : Raises G (n + 2) d msg) {a : Addr} (F : FnAt G (df 4) a) : CallX G (n + 4) (.ref a) [.list [.str "(", d, .str "a"]] "TypeError" msg := by
  obtain ⟨ac, FC⟩ := T.check
  refine Mine.CallX.fn1 (x := "email_header_fields") F fun env l FE => ?_
  have R : Rd G.base env (fpS l) (HS G.base env l) := rdS
  refine ExX.step R (.of (Ex1.assignF (EvF.list .nil (by decide)) (FE.loc rfl))) ?_
  rintro _ ⟨a₀, rfl⟩
  refine ExX.head (Z.ExX1.forM (f := fun d => setS "v" (.val d)) (ds := [.str "(", d, .str "a"]) 1 (by show 1 < 3; decide) (EvI.x (.of_ev (.name rfl) .list)) (fun d _ => .name (FE.loc rfl)) (fun i σ => i = 0 → Sub [("accepted_values", .own a₀ [])] σ) (fun _ => ⟨rfl, trivial⟩) ?_ ?_)
  · intro i e σ₁ hi he hJ
    have : i = 0 := by omega
    subst this
    cases he
    refine ExP.only (σ₀ := [("accepted_values", .own a₀ []), ("v", .val (.str "("))]) ⟨(lookup_setS_ne (by decide) _).trans (hJ rfl).1, lookup_setS_self _, trivial⟩ ?_
    refine ExP.cons R (ExP1.ite R (c := true) (TrP.not (TrP.bool (EvP.call rdS tellsS (fn_ev FC (FE.kind rfl)) FC.callee (.cons rdS (.of (.name rfl)) .nil) (check_paren (n := n + 1) T FC)))) (fun _ => ?_) nofun)
    refine ExP.one R (.of (Ex1.assign .str (FE.loc rfl))) (ExP.nil ?_)
    exact ExP.one R (.of (Ex1.append rfl (.name rfl) (by decide))) (ExP.nil ⟨rfl, fun z => by cases z⟩)
  · intro e σ₁ he hJ
    cases he
    refine ExX.only (σ₀ := [("v", .val d)]) ⟨lookup_setS_self _, trivial⟩ ?_
    exact ExX.head (ExX1.iteT (TrX.not (TrX.plain (EvX.call rdS tellsS (fn_ev FC (FE.kind rfl)) FC.callee (.cons rdS (.of (.name rfl)) .nil) (check_x T h FC)))))
theorem EvH.two {nm : Str} {X : String} {msg : Str} {a b : Expr} {p : Pos} {x y : Str} (ha : EvH G env nm X msg a (.str x)) (hb : EvH G env nm X msg b (.str y)) (he : starEach [a, b] env = [(false, eval a env), (false, eval b env)] := by rfl) (he2 : starEach [b] env = [(false, eval b env)] := by rfl) : EvH G env nm X msg (.List [a, b] p) (.list [.str x, .str y]) := fun A s E e hu F k hh hs => by
  refine List_ (PyProof.Rows.args_cons (wpAny_mono (ha A s E e hu F k hh hs) (fun va s₁ p₁ => ?_) fun _ _ x => x) (by rw [he, he2]))
  obtain ⟨kp, os1, g1, r1⟩ := p₁
  have x1 : Ext G.base s.heap s₁.heap := .of_stays kp
  have hs1 : Says s₁.heap e X msg := by
    obtain ⟨t, tk, ⟨o, vs, q1, q2, q3, q4⟩, ⟨ot, nt, w1, w2, w3⟩⟩ := hs
    exact ⟨t, tk, ⟨o, vs, kp _ _ q1, q2, q3, q4⟩, ⟨ot, nt, kp _ _ w1, w2, w3⟩⟩
  refine PyProof.Rows.args_cons (wpAny_mono (hb A s₁ E e hu (F.ext x1) (x1.base k) (hh.ext x1) hs1) (fun vb s₂ p₂ => ?_) fun _ _ x => x) he2
  obtain ⟨kp2, os2, g2, r2⟩ := p₂
  refine PyProof.Rows.args_nil (wpAny_newObj_type ?_ (by size_fits))
  have keep : ∀ b o, s.heap.get? b = some o → (s₂.heap.push { cls := .type "list", data := .seq [va, vb].toArray }).get? b = some o := fun b o q => Heap.get?_push_of_some _ (kp2 b o (kp b o q))
  refine ⟨keep, os2.trans os1, g2.trans g1, fun ok hf => .list (vs := [va, vb]) (hf _ ?_) ⟨_, Heap.get?_push_size _ rfl, rfl, 0, rfl⟩ (.cons ((r1 ok hf).atomic rfl) (.cons ((r2 ok fun b q => hf b ?_).atomic rfl) .nil))⟩
  · cases q : s.heap.get? s₂.heap.objs.size with
    | none => rfl
    | some o => exact absurd (Heap.lt_size (kp2 _ _ (kp _ _ q))) (Nat.lt_irrefl _)
  · cases z : s.heap.get? b with
    | none => rfl
    | some o => rw [kp _ _ z] at q; cases q
/-- try: x = e, and e raises -/
theorem ExP1.tryAsgX {X : String} {msg : Str} {x : Str} {e : Expr} {p p0 pos : Pos} {h₀ : ExceptHandler} {hs : List ExceptHandler} {d : D} {Q : Fl → St → Prop} (he : EvX G n env (HS G.base env l) σ e X msg) (hh : Hand G n env l σ X msg (h₀ :: hs) d) (hq : Q (.ret d) []) (hsw : swapsWith e (some (.Name x p)) p0.line env = pure false := by rfl) : ExP1 G n env (HS G.base env l) σ (.Try [.Assign [.Name x p] e p0] (h₀ :: hs) [] [] pos) Q := fun ok A s E hS r k i => by
  refine wpAny_Try_except (wpAny_execs_cons (wpAny_Assign_Name (wpAny_mono (he ok A s hS r k i) (fun _ _ z => z.elim) fun x s' z => ?_) hsw))
  obtain ⟨a, w, rfl, hw, ex⟩ := z
  have K := hS.stk i.frame (i.off _ (.inl (.inl rfl)))
  refine ex.note K hS.2.1 (fun L' z => by rcases hw with hw | hw <;> rw [hw] at z <;> cases z) fun s₁ ex₁ => ex₁.land (by simp) fun s₂ ex₂ => ?_
  refine wpAny_mono (hh ok A s s₂ a E hS r k i ex₂) (fun f s₃ z => ?_) fun _ _ x => x
  obtain ⟨v, rfl, rep, mv, fr⟩ := z
  refine ⟨.ret d, [], hq, rep, ⟨fr, fun b w => i.off b (.inl (w.elim id fun z => nomatch z)), fun b q => i.fresh b (mv.dom b q), fun y d q => (nomatch q), fun y b es q => (nomatch q), fun b w => (nomatch w), by simp [owned]⟩, mv.weak fun b w => .inl w, mv.base k fun b w => i.off b (.inl w), fun b w => nomatch w⟩
theorem ExP1.tryAsgOk {x : Str} {e : Expr} {p p0 pos : Pos} {h₀ : ExceptHandler} {hs : List ExceptHandler} {d : D} (he : EvP G n env (HS G.base env l) σ e d) (hx : Storable env x) (hsw : swapsWith e (some (.Name x p)) p0.line env = pure false := by rfl) : ExP1 G n env (HS G.base env l) σ (.Try [.Assign [.Name x p] e p0] (h₀ :: hs) [] [] pos) fun fl σ' => fl = .next ∧ σ' = setS x (.val d) σ := fun ok A s E hS r k i => by
  refine wpAny_Try_except (wpAny_execs_cons (wpAny_Assign_Name (wpAny_mono (he ok A s (fun _ _ => False) hS r k i) (fun v s₁ p₁ => ?_) fun _ _ x => x.elim) hsw))
  have i₁ := i.ext p₁.1.ext
  refine wpAny_store (base := G.base) i₁.frame hx fun s₂ hv ho F m => ?_
  have m' : Mv G.base (Wr env σ) s s₂ := (p₁.1.mv (W := Wr env σ)).trans (m.weak fun _ w => Or.inl w) fun _ w => .inl w
  exact wpAny_execs_nil (wpAny_execs_nil ⟨.next, _, ⟨rfl, rfl⟩, trivial, i₁.set_val m F hv ho p₁.2, m', m'.base k i.off, fun a w => .inl (owned_setS_val w)⟩)
theorem CmpD.is_self {a : Addr} : CmpD G n .Is (.raw (.ref a)) (.raw (.ref a)) true := fun ok A s E va vb r k f ra rb => by
  cases ra; cases rb; exact wpAny_is_ref_self ⟨.refl, rfl⟩
theorem CmpD.is_str_ref {x : Str} {a : Addr} : CmpD G n .Is (.str x) (.raw (.ref a)) false := fun ok A s E va vb r k f ra rb => by
  cases ra; cases rb; exact wpAny_is_other rfl (by intro z; cases z) ⟨.refl, rfl⟩
theorem CallP.fn3 {d : DefRec} {a : Addr} {d1 d2 d3 r : D} {x y z : Str} (F : FnAt G d a) (h : ∀ env l, FEnv env d.scope → ExP G n env (HS G.base env l) [(x, .val d1), (y, .val d2), (z, .val d3)] d.body fun fl _ => fl = .ret r)
    (hx : d.params.args.map (·.arg) = [x, y, z] := by rfl) (hb : ∀ pm code doc v w u, bindArgs (docDef d.name d.params d.body d.scope pm code doc) ⟨[v, w, u], []⟩ = pure [(x, v), (y, w), (z, u)] := by intros; rfl) (hnd : [x, y, z].Nodup := by decide)
    (hkind : (d.params.args.all fun y => d.scope.names.lookup y.arg == some .local || d.scope.names.lookup y.arg == some .cell) = true := by rfl)
    (hco : d.scope.isCoroutine = false := by rfl) (hgen : d.scope.isGenerator = false := by rfl) (hk : d.scope.kind = .function := by rfl) : CallP G (n + 1) (.ref a) [d1, d2, d3] r := by
  have hlen : d.params.args.length = 3 := by have := congrArg List.length hx; simpa using this
  refine CallP.def F (by rw [hlen]; rfl) (fun pm code doc vs hv => ?_) hkind (by rw [hx]; exact hnd) (fun env l FE => ?_) hco hgen hk
  · match vs, hv with
    | [v, w, u], _ => rw [hb, hx]; rfl
  · have hz : (d.params.args.map (·.arg)).zip ([d1, d2, d3].map Slot.val) = [(x, .val d1), (y, .val d2), (z, .val d3)] := by rw [hx]; rfl
    rw [hz]; exact h env l FE
theorem told_x {f : Value} {th : Value} {da : D} {msg : Str} (T : Tp G) (c : Callee G f) (h : CallX G n f [da] "TypeError" msg) {a : Addr} (F : FnAt G (df 10) a) : CallP G (n + 1) (.ref a) [.raw f, .raw th, da] (.list [.str "TypeError", .str msg]) := by
  refine CallP.fn3 (x := "f") (y := "thing") (z := "arg") F (fun env l FE => ?_)
  refine ExP.cons rdS (ExP1.tryAsgX (EvX.call rdS tellsS (.name rfl) c (.cons rdS (.of (.name rfl)) .nil) h) ?_ rfl)
  exact Hand.take (FE.kind rfl) T.te rfl (FE.kind rfl) sub_te_be meta_te sub_te_te (EvH.two EvH.str (EvH.strOf excS_TypeError (FE.kind rfl) T.str rfl (by rw [FE.scope]; rfl)))
theorem told_same {f : Value} {b : Addr} (T : Tp G) (c : Callee G f) (h : CallP G n f [.raw (.ref b)] (.raw (.ref b))) {a : Addr} (F : FnAt G (df 10) a) : CallP G (n + 1) (.ref a) [.raw f, .raw (.ref b), .raw (.ref b)] (.list [.str "the very one", .str ""]) := by
  refine CallP.fn3 (x := "f") (y := "thing") (z := "arg") F (fun env l FE => ?_)
  refine ExP.one rdS (ExP1.tryAsgOk (EvP.call rdS tellsS (.name rfl) c (.cons rdS (.of (.name rfl)) .nil) h) (FE.loc rfl)) (.of ?_)
  refine Ex.cons (Ex1.ite (c := true) (Tr.cmp (Ev.name rfl).b (Ev.name rfl).b CmpD.is_self) (fun _ => ?_) nofun)
  exact Ex.cons (Ex1.ret (Ev.list (.cons .str (.cons .str .nil)) (by decide)).b rfl)
theorem told_ans {f : Value} {b : Addr} {x : Str} (T : Tp G) (c : Callee G f) (h : CallP G n f [.raw (.ref b)] (.str x)) {a : Addr} (F : FnAt G (df 10) a) : CallP G (n + 1) (.ref a) [.raw f, .raw (.ref b), .raw (.ref b)] (.list [.str "answer", .str x]) := by
  refine CallP.fn3 (x := "f") (y := "thing") (z := "arg") F (fun env l FE => ?_)
  refine ExP.one rdS (ExP1.tryAsgOk (EvP.call rdS tellsS (.name rfl) c (.cons rdS (.of (.name rfl)) .nil) h) (FE.loc rfl)) (.of ?_)
  refine Ex.cons (Ex1.ite (c := false) (Tr.cmp (Ev.name rfl).b (Ev.name rfl).b CmpD.is_str_ref) nofun (fun _ => Ex.nil ?_))
  exact Ex.cons (Ex1.ret (Ev.list (.cons .str (.cons (.name rfl) .nil)) (sz (by simp))).b rfl)
end
end L09
end Mine
end
section
open PySem PySem.W PyProof.Rows PySem.Calls
set_option maxRecDepth 100000
namespace Mine
namespace L09
open PySem.Challenge
open P9
def signOf (k : Int) : Nat := if k.fmod 10 < 9 then (([34, 92, 97, 34, 98, 92, 40, 32, 34] : List Nat)[(k.fmod 10).toNat]?).getD 0 else if (k.fdiv 10).fmod 1112064 ≥ 55296 then ((k.fdiv 10).fmod 1112064 + 2048).toNat else ((k.fdiv 10).fmod 1112064).toNat
def itemOf (k : Int) : P9.Itm := if k.fmod 6 < 2 then .txt "\"" else if k.fmod 6 = 2 then .txt "\\" else if k.fmod 6 = 3 then .num ((k.fdiv 6).fmod 1000) else if k.fmod 6 = 4 then .txt ((([S [92, 34], S [34, 34], S [92, 92], S []] : List Str)[((k.fdiv 6).fmod 4).toNat]?).getD (S [])) else .txt (S [signOf (k.fdiv 6)])
theorem fmod_lt (k m : Int) (h : 0 < m) : 0 ≤ k.fmod m ∧ k.fmod m < m := ⟨Int.fmod_nonneg_of_pos _ h, Int.fmod_lt_of_pos _ h⟩
theorem signOf_lt (k : Int) : signOf k < 1114112 := by
  unfold signOf
  have hm := fmod_lt k 10 (by decide)
  have hc := fmod_lt (k.fdiv 10) 1112064 (by decide)
  split
  · have hk : ([34, 92, 97, 34, 98, 92, 40, 32, 34] : List Nat)[(k.fmod 10).toNat]? = some (([34, 92, 97, 34, 98, 92, 40, 32, 34] : List Nat)[(k.fmod 10).toNat]'(by simp; omega)) := List.getElem?_eq_getElem _
    have := List.mem_of_getElem? hk
    rw [hk]
    generalize ([34, 92, 97, 34, 98, 92, 40, 32, 34] : List Nat)[(k.fmod 10).toNat]'(by simp; omega) = c at this
    show c < 1114112
    simp at this
    omega
  · split <;> omega
theorem strOk_S {l : List Nat} (h : Good l) : PyData.strOk (S l) = true := Good.data (n := 0) h
theorem fine_item (k : Int) : Fine (itemOf k) := by
  unfold itemOf
  split
  · exact ⟨by decide, by decide +kernel⟩
  split
  · exact ⟨by decide, by decide +kernel⟩
  split
  · trivial
  split
  · have hm := fmod_lt (k.fdiv 6) 4 (by decide)
    generalize (k.fdiv 6).fmod 4 = q at hm
    have : q = 0 ∨ q = 1 ∨ q = 2 ∨ q = 3 := by omega
    rcases this with rfl | rfl | rfl | rfl <;> exact ⟨by decide, by decide +kernel⟩
  · refine ⟨by show ([signOf (k.fdiv 6)] : List Nat).toArray.size ≤ 2; simp, strOk_S fun c hc => ?_⟩
    rw [List.mem_singleton.mp hc]; exact signOf_lt _
section
variable {G : Gr} {n : Nat} {env : Env} {σ : St} {l : List Env}
set_option maxHeartbeats 4000000 in
theorem sign_ok {k : Int} (T : Tp G) {a : Addr} (F : FnAt G (df 6) a) : CallD G (n + 1) (.ref a) [.int k] (.str (S [signOf k])) := by
  unfold signOf
  have hm := fmod_lt k 10 (by decide)
  generalize hr : k.fmod 10 = r at hm
  generalize hq : k.fdiv 10 = q
  have hc0 := fmod_lt q 1112064 (by decide)
  have start : ∀ c : Nat, (∀ env, FEnv env (df 6).scope → Ex G n env [("x", .val (.int k)), ("q", .val (.int q)), ("r", .val (.int r))] ((df 6).body.drop 1) fun fl _ => fl = .ret (.str (S [c]))) → CallD G (n + 1) (.ref a) [.int k] (.str (S [c])) := fun c h =>
    CallD.fn1 (x := "x") F fun env FE => Ex.one (Ex1.assignT ((Ev.call (.builtin (FE.kind rfl) T.divmod rfl) (.builtin _) (.cons (.name rfl) (.cons .int .nil)) (.divmod (by decide) (by decide))).cast (d' := .tuple [.int q, .int r]) (by rw [hr, hq])) (.cons (.name (FE.loc rfl)) (.cons (.name (FE.loc rfl)) .nil))) (h env FE)
  by_cases h9 : r < 9
  · rw [if_pos h9]
    have hk : ([34, 92, 97, 34, 98, 92, 40, 32, 34] : List Nat)[r.toNat]? = some (([34, 92, 97, 34, 98, 92, 40, 32, 34] : List Nat)[r.toNat]'(by simp; omega)) := List.getElem?_eq_getElem _
    rw [hk]
    generalize ([34, 92, 97, 34, 98, 92, 40, 32, 34] : List Nat)[r.toNat]'(by simp; omega) = c at hk
    refine start c fun env FE => ?_
    refine Ex.cons (Ex1.ite (c := true) ((Tr.cmp (Ev.name rfl).b Ev.int.b .lt_int).cast (decide_eq_true h9)) (fun _ => ?_) nofun)
    exact Ex.cons (Ex1.ret (Ev.itemS (x := S [34, 92, 97, 34, 98, 92, 40, 32, 34]) Ev.str (.name rfl) (.str hm.1 (by omega) hk)).b rfl)
  · rw [if_neg h9]
    generalize hc : q.fmod 1112064 = c at hc0
    by_cases h5 : c ≥ 55296
    · rw [if_pos h5]
      refine start _ fun env FE => ?_
      refine Ex.cons (Ex1.ite (c := false) ((Tr.cmp (Ev.name rfl).b Ev.int.b .lt_int).cast (decide_eq_false h9)) nofun (fun _ => Ex.nil ?_))
      refine Ex.one (Ex1.assign ((Ev.binop (.name rfl) .int (.mod (by decide))).cast (d' := .int c) (by rw [hc])) (FE.loc rfl)) ?_
      refine Ex.cons (Ex1.ite (c := true) ((Tr.cmp (Ev.name rfl).b Ev.int.b .ge_int).cast (decide_eq_true h5)) (fun _ => ?_) nofun)
      refine Ex.one (Ex1.aug rfl .int (FE.loc rfl) (.inl ⟨rfl, rfl⟩)) (Ex.nil ?_)
      exact Ex.cons (Ex1.ret (Ev.call (.builtin (FE.kind rfl) T.chr rfl) (.builtin _) (.cons (.name rfl) .nil) (CallD.chr (by omega) (by omega))).b rfl)
    · rw [if_neg h5]
      refine start _ fun env FE => ?_
      refine Ex.cons (Ex1.ite (c := false) ((Tr.cmp (Ev.name rfl).b Ev.int.b .lt_int).cast (decide_eq_false h9)) nofun (fun _ => Ex.nil ?_))
      refine Ex.one (Ex1.assign ((Ev.binop (.name rfl) .int (.mod (by decide))).cast (d' := .int c) (by rw [hc])) (FE.loc rfl)) ?_
      refine Ex.cons (Ex1.ite (c := false) ((Tr.cmp (Ev.name rfl).b Ev.int.b .ge_int).cast (decide_eq_false h5)) nofun (fun _ => Ex.nil ?_))
      exact Ex.cons (Ex1.ret (Ev.call (.builtin (FE.kind rfl) T.chr rfl) (.builtin _) (.cons (.name rfl) .nil) (CallD.chr (by omega) (by omega))).b rfl)
set_option maxHeartbeats 4000000 in
theorem item_ok {k : Int} (T : Tp G) {a : Addr} (F : FnAt G (df 7) a) : CallD G (n + 2) (.ref a) [.int k] (itmD (itemOf k)) := by
  obtain ⟨aS, FS⟩ := T.sign
  unfold itemOf
  have hm := fmod_lt k 6 (by decide)
  generalize hr : k.fmod 6 = r at hm
  generalize hq : k.fdiv 6 = q
  have h4m := fmod_lt q 4 (by decide)
  have start : ∀ d : D, (∀ env, FEnv env (df 7).scope → Ex G (n + 1) env [("x", .val (.int k)), ("q", .val (.int q)), ("r", .val (.int r))] ((df 7).body.drop 1) fun fl _ => fl = .ret d) → CallD G (n + 2) (.ref a) [.int k] d := fun d h =>
    CallD.fn1 (x := "x") F fun env FE => Ex.one (Ex1.assignT ((Ev.call (.builtin (FE.kind rfl) T.divmod rfl) (.builtin _) (.cons (.name rfl) (.cons .int .nil)) (.divmod (by decide) (by decide))).cast (d' := .tuple [.int q, .int r]) (by rw [hr, hq])) (.cons (.name (FE.loc rfl)) (.cons (.name (FE.loc rfl)) .nil))) (h env FE)
  refine start _ fun env FE => ?_
  by_cases h2 : r < 2
  · rw [if_pos h2]
    refine Ex.cons (Ex1.ite (c := true) ((Tr.cmp (Ev.name rfl).b Ev.int.b .lt_int).cast (decide_eq_true h2)) (fun _ => ?_) nofun)
    exact Ex.cons (Ex1.ret Ev.str.b rfl)
  rw [if_neg h2]
  refine Ex.cons (Ex1.ite (c := false) ((Tr.cmp (Ev.name rfl).b Ev.int.b .lt_int).cast (decide_eq_false h2)) nofun (fun _ => Ex.nil ?_))
  by_cases h2 : r = 2
  · rw [if_pos h2]
    refine Ex.cons (Ex1.ite (c := true) ((Tr.cmp (Ev.name rfl).b Ev.int.b .eq_int).cast (by rw [h2]; rfl)) (fun _ => ?_) nofun)
    exact Ex.cons (Ex1.ret Ev.str.b rfl)
  rw [if_neg h2]
  refine Ex.cons (Ex1.ite (c := false) ((Tr.cmp (Ev.name rfl).b Ev.int.b .eq_int).cast (by simp [h2])) nofun (fun _ => Ex.nil ?_))
  by_cases h3 : r = 3
  · rw [if_pos h3]
    refine Ex.cons (Ex1.ite (c := true) ((Tr.cmp (Ev.name rfl).b Ev.int.b .eq_int).cast (by rw [h3]; rfl)) (fun _ => ?_) nofun)
    exact Ex.cons (Ex1.ret (Ev.binop (.name rfl) .int (.mod (by decide))).b rfl)
  rw [if_neg h3]
  refine Ex.cons (Ex1.ite (c := false) ((Tr.cmp (Ev.name rfl).b Ev.int.b .eq_int).cast (by simp [h3])) nofun (fun _ => Ex.nil ?_))
  by_cases h4 : r = 4
  · rw [if_pos h4]
    refine Ex.cons (Ex1.ite (c := true) ((Tr.cmp (Ev.name rfl).b Ev.int.b .eq_int).cast (by rw [h4]; rfl)) (fun _ => ?_) nofun)
    refine Ex.cons (Ex1.ret (Ev.item (ds := [.str (S [92, 34]), .str (S [34, 34]), .str (S [92, 92]), .str (S [])]) (Ev.list (.cons .str (.cons .str (.cons .str (.cons .str .nil)))) (by decide)) (.binop (.name rfl) .int (.mod (by decide))) (.list h4m.1 (by omega) ?_)).b rfl)
    generalize q.fmod 4 = j at h4m
    have : j = 0 ∨ j = 1 ∨ j = 2 ∨ j = 3 := by omega
    rcases this with rfl | rfl | rfl | rfl <;> rfl
  rw [if_neg h4]
  refine Ex.cons (Ex1.ite (c := false) ((Tr.cmp (Ev.name rfl).b Ev.int.b .eq_int).cast (by simp [h4])) nofun (fun _ => Ex.nil ?_))
  exact Ex.cons (Ex1.ret (Ev.call (fn_ev FS (FE.kind rfl)) FS.callee (.cons (.name rfl) .nil) (sign_ok T FS)).b rfl)
end
end L09
end Mine
end
section
open PySem PySem.W PyProof.Rows PySem.Calls
set_option maxRecDepth 100000
namespace Mine
namespace L09
open PySem.Challenge
open P9
theorem tw_get {α : Type} (p : α → Bool) : ∀ (m : List α) (r : Nat) (x : α), r ≤ (m.takeWhile p).length → m[r]? = some x → p x = decide (r < (m.takeWhile p).length)
  | [], r, x, h, e => by cases e
  | y :: m, r, x, h, e => by
    rw [List.takeWhile_cons] at h ⊢
    cases hp : p y with
    | false =>
      rw [hp] at h
      have : r = 0 := by simpa using h
      subst this
      cases e
      rw [hp]; rfl
    | true =>
      rw [hp] at h
      cases r with
      | zero => cases e; rw [hp]; simp
      | succ r =>
        have := tw_get p m r x (by simpa using h) (by simpa using e)
        rw [this]; simp
theorem row_le (l : List P9.Itm) (k : Nat) : row l k ≤ k := by
  unfold row
  have h1 : ((l.take k).reverse.takeWhile isBs).length ≤ (l.take k).reverse.length := (List.takeWhile_sublist _).length_le
  rw [List.length_reverse, List.length_take] at h1
  omega
theorem row_test {l : List P9.Itm} {k run : Nat} {i : P9.Itm} (hr : run ≤ row l k) (hk : run < k) (hl : k ≤ l.length) (hi : l[k - run - 1]? = some i) : isBs i = decide (run < row l k) := by
  unfold row at hr ⊢
  refine tw_get isBs _ run i hr ?_
  rw [List.getElem?_reverse (by rw [List.length_take]; omega), List.length_take, Nat.min_eq_left hl, List.getElem?_take, if_pos (by omega)]
  rw [← hi]; congr 1; omega
section
variable {G : Gr} {n : Nat} {env : Env} {σ : St} {l : List Env}
theorem eq_bs {i : P9.Itm} {e : Expr} {p1 p2 : Pos} {k : Nat} (h : Ev G n env σ e (itmD i)) : Tr G n env σ (.Compare e [.Eq] [.Constant (.str "\\") k p1] p2) (isBs i) := by
  cases i with
  | num z => exact Tr.cmp h.b Ev.str.b (CmpD.eq_int_str (by decide +kernel))
  | txt x => exact Tr.cmp h.b Ev.str.b .eq_str
theorem eq_mk {i : P9.Itm} {e : Expr} {p1 p2 : Pos} {k : Nat} (h : Ev G n env σ e (itmD i)) : Tr G n env σ (.Compare e [.Eq] [.Constant (.str "\"") k p1] p2) (isMk i) := by
  cases i with
  | num z => exact Tr.cmp h.b Ev.str.b (CmpD.eq_int_str (by decide +kernel))
  | txt x => exact Tr.cmp h.b Ev.str.b .eq_str
set_option maxHeartbeats 4000000 in
theorem odd_ok {its : List P9.Itm} {k : Nat} (T : Tp G) (hk : k ≤ its.length) (hl : its.length ≤ 1000) {a : Addr} (F : FnAt G (df 8) a) : CallD G (n + 1) (.ref a) [.list (its.map itmD), .int (k : Nat)] (.bool (odd its k)) := by
  refine CallD.fn2 (x := "items") (y := "k") F (fun env FE => ?_)
  refine Ex.one (Ex1.assign .int (FE.loc rfl)) ?_
  refine Ex.whileS (ι := {r : Nat // r ≤ row its k}) (fun p => [("items", .val (.list (its.map itmD))), ("k", .val (.int (k : Nat))), ("run", .val (.int (p.1 : Nat)))]) (fun p => row its k - p.1) (fun p => decide (p.1 < row its k)) ⟨0, Nat.zero_le _⟩ ⟨rfl, rfl, rfl, trivial⟩ (fun p => by simp; decide) ?_ ?_ ?_
  · rintro ⟨r, hr⟩
    by_cases hrk : r < k
    · have hlt : k - r - 1 < its.length := by omega
      have hi : its[k - r - 1]? = some its[k - r - 1] := List.getElem?_eq_getElem hlt
      refine (Tr.and (c := true) (c' := isBs its[k - r - 1]) ((Tr.cmp (Ev.name rfl).b (Ev.name rfl).b .gt_int).cast (by simp; omega)) fun _ => (Tr.and (c' := true) (eq_bs (Ev.item (.name rfl) (.binop (.binop (.name rfl) (.name rfl) .sub) .int .sub) (.list (by dsimp only; omega) (by dsimp only; omega) ?_))) fun _ => .and_nil).cast (Bool.and_true _)).cast ?_
      · have e : ((k : Int) - (r : Int) - 1).toNat = k - r - 1 := by omega
        rw [e, List.getElem?_map, hi]; rfl
      · rw [Bool.true_and]; exact row_test hr hrk hk hi
    · refine (Tr.and (c := false) (c' := false) ((Tr.cmp (Ev.name rfl).b (Ev.name rfl).b .gt_int).cast (by simp; omega)) nofun).cast ?_
      have := row_le its k
      symm
      rw [Bool.false_and, decide_eq_false_iff_not]
      show ¬ r < row its k
      omega
  · rintro ⟨r, hr⟩ hc
    have hc := of_decide_eq_true hc
    refine Ex.one (Ex1.aug rfl .int (FE.loc rfl) (.inl ⟨rfl, rfl⟩)) (Ex.nil ⟨⟨r + 1, hc⟩, ?_, rfl, rfl, rfl, trivial⟩)
    show row its k - (r + 1) < row its k - r
    have hc' : r < row its k := hc
    omega
  · rintro ⟨r, hr⟩ hc
    have hc : ¬ r < row its k := of_decide_eq_false hc
    have : r = row its k := by omega
    subst this
    refine Ex.cons (Ex1.ret (Ev.cmp (Ev.binop (.name rfl) .int (.mod (by decide))).b Ev.int.b .eq_int).b ?_)
    show Fl.ret (.bool _) = Fl.ret (.bool _)
    congr 2
    unfold odd
    have e : ((row its k : Int)).fmod 2 = ((row its k % 2 : Nat) : Int) := by
      rw [Int.fmod_eq_emod_of_nonneg _ (by decide)]; rfl
    rw [e]
    by_cases h : row its k % 2 = 1
    · rw [h]; rfl
    · have : row its k % 2 = 0 := by omega
      rw [this]; rfl
theorem small_two {b : Int} (h0 : 0 ≤ b) (h1 : b < 2 ^ 60) : Builtin.Range.small 1 b 2 = true := by
  unfold Builtin.Range.small Builtin.Range.rangeSize
  simp only [Builtin.Range.rangeFitsLong, Bool.and_eq_true, Bool.or_eq_true, decide_eq_true_eq, beq_iff_eq, show (2 : Int) > 0 by decide, if_true]
  split <;> omega
theorem size_two (L : Nat) : Builtin.Range.rangeSize 1 (L : Nat) 2 = ((L / 2 : Nat) : Int) := by
  unfold Builtin.Range.rangeSize
  rw [if_pos (by decide)]
  split <;> omega
theorem rep_int {ok : Addr → Prop} {h : Heap} {v : Value} {i : Int} (r : Rep ok h v (.int i)) : ∃ t, v = .int i t := by cases r; exact ⟨_, rfl⟩
theorem three_ints {ok : Addr → Prop} {h : Heap} {vs : List Value} {i j k : Int} (r : RepAll ok h vs [.int i, .int j, .int k]) : ∃ t u v, vs = [.int i t, .int j u, .int k v] := by
  cases r with | cons a r =>
  cases r with | cons b r =>
  cases r with | cons c r =>
  cases r
  obtain ⟨t, rfl⟩ := rep_int a
  obtain ⟨u, rfl⟩ := rep_int b
  obtain ⟨v, rfl⟩ := rep_int c
  exact ⟨t, u, v, rfl⟩
theorem EvI.range3 {e1 e2 e3 target : Expr} {p pos : Pos} {L : Nat} (hk : env.kindOf "range" = some .globalImplicit) (hg : G.mg "range" = none) (h1 : Ev G n env σ e1 (.int 1)) (h2 : Ev G n env σ e2 (.int (L : Nat))) (h3 : Ev G n env σ e3 (.int 2)) (hL : L < 2 ^ 60)
    (hns : noStar [e1, e2, e3] = true := by rfl) (hplain : (backTo pos (starEach [e1, e2, e3] env)).any (·.1) = false := by rfl) (he1 : starEach [e1, e2, e3] env = (false, eval e1 env) :: starEach [e2, e3] env := by rfl) (he2 : starEach [e2, e3] env = (false, eval e2 env) :: starEach [e3] env := by rfl) (he3 : starEach [e3] env = (false, eval e3 env) :: starEach [] env := by rfl) :
    EvI G n env σ (.Call (.Name "range" p) [e1, e2, e3] [] pos) target ((List.range (L / 2)).map fun t => .int ((1 + 2 * t : Nat) : Int)) := fun ok A s E r kb i => by
  have hb : Ev G n env σ (.Name "range" p) (.raw (.type "range")) := Ev.builtin hk hg (by first | rfl | kernel_rfl)
  refine Call_ (wpAny_mono (hb ok A s E r kb i) (fun v s₁ p₁ => ?_) fun _ _ x => x)
  obtain ⟨st, rp⟩ := p₁
  cases rp
  have kb₁ := st.ext.base kb
  refine callWith_callee (G := G) (.type _) hplain (wpAny_mono ((EvL.cons h1 (EvL.cons h2 (EvL.cons h3 .nil he3) he2) he1 : EvL G n env σ [e1, e2, e3] [.int 1, .int (L : Nat), .int 2]) ok A s₁ E pos r kb₁ (i.ext st.ext)) (fun vs s₂ p₂ => ⟨p₂.1.ext.base kb₁, ?_⟩) fun _ _ x => x) hns
  obtain ⟨st₂, rs⟩ := p₂
  obtain ⟨t1, t2, t3, rfl⟩ := three_ints rs
  have st12 := st.trans st₂
  refine call_range_3 (by decide) ?_ (.inl (PyProof.noPylong_small (by decide)))
  refine wpAny_pyIter_range (IsRange.new ..) (small_two (by omega) (by omega)) ?_
  have hf0 : ∀ b, s₂.heap.objs.size ≤ b → s.heap.get? b = none := fun b hb => by
    cases q : s₂.heap.get? b with
    | none => exact st12.ext.none q
    | some o => exact absurd (Heap.lt_size q) (Nat.not_lt.mpr hb)
  refine ⟨st12.trans (.heap fun b o e => Heap.get?_push_of_some _ (Heap.get?_push_of_some _ e)), _, _, _, _, _, rfl, Itr.of_walks (vs := []) (ds' := []) (Walks.range r.handled _ 1 2 (L / 2)) (by simp) (fun b hb => .inl (List.mem_singleton.mp hb)) ?_ ?_, ⟨?_, .nil⟩, fun a ha => ?_, fun a ha => ?_, fun g hg => hg.elim⟩
  · intro i h q
    exact ⟨_, "range_iterator", q, rfl, rfl, by decide⟩
  · rintro i v d h hd ⟨t, rfl⟩ _
    simp only [List.getElem?_map, Option.map_eq_some_iff] at hd
    obtain ⟨j, hj, rfl⟩ := hd
    have : j = i := by
      rw [List.getElem?_range] at hj
      · exact (Option.some.inj hj).symm
      · have := (List.getElem?_eq_some_iff.mp hj).1; simpa using this
    subst this
    have e : (1 : Int) + (j : Int) * 2 = ((1 + 2 * j : Nat) : Int) := by push_cast; omega
    rw [e]; exact .int _ _
  · show IsRangeIter _ _ _ _ _
    have e1 : (1 : Int) + ((0 : Nat) : Int) * 2 = 1 := rfl
    have e2 : ((L / 2 : Nat) : Int) - ((0 : Nat) : Int) = Builtin.Range.rangeSize 1 (L : Nat) 2 := by rw [size_two]; simp
    rw [e1, e2]
    exact Heap.get?_push_size _ rfl
  · subst ha
    refine ⟨by rw [Heap.get?_push_size _ rfl]; rfl, fresh_not_wr i (hf0 _ ?_)⟩
    rw [Heap.size_push]; exact Nat.le_succ _
  · subst ha
    refine ⟨hf0 _ ?_, rfl⟩
    rw [Heap.size_push]; exact Nat.le_succ _
end
end L09
end Mine
end
section
open PySem PySem.W PyProof.Rows PySem.Calls
set_option maxRecDepth 100000
namespace Mine
namespace L09
open PySem.Challenge
open P9
theorem gone_take : ∀ (t : Nat) (ms : List Nat) (m c : Nat), ms[2 * t]? = some m → ms[2 * t + 1]? = some c → gone (ms.take (2 * (t + 1))) = gone (ms.take (2 * t)) + (c - m + 1)
  | 0, ms, m, c, h1, h2 => by
    match ms, h1, h2 with
    | x :: y :: r, h1, h2 =>
      cases h1; cases h2
      show gone [m, c] = gone [] + (c - m + 1)
      show c - m + 1 + 0 = 0 + (c - m + 1)
      omega
  | t + 1, ms, m, c, h1, h2 => by
    match ms, h1, h2 with
    | [], h1, h2 => cases h1
    | [x], h1, h2 => simp at h1
    | x :: y :: r, h1, h2 =>
      have e1 : 2 * (t + 1) = 2 * t + 1 + 1 := by omega
      have e2 : 2 * (t + 1 + 1) = 2 * (t + 1) + 1 + 1 := by omega
      rw [e1] at h1 h2
      have ih := gone_take t r m c (by simpa using h1) (by simpa using h2)
      rw [e2, List.take_succ_cons, List.take_succ_cons, e1, List.take_succ_cons, List.take_succ_cons, ← e1]
      show y - x + 1 + gone (r.take (2 * (t + 1))) = y - x + 1 + gone (r.take (2 * t)) + _
      rw [ih]; omega
theorem gone_all : ∀ ms : List Nat, gone (ms.take (2 * (ms.length / 2))) = gone ms
  | [] => rfl
  | [x] => by simp [gone]
  | x :: y :: r => by
    have e : 2 * ((x :: y :: r).length / 2) = 2 * (r.length / 2) + 1 + 1 := by simp only [List.length_cons]; omega
    rw [e, List.take_succ_cons, List.take_succ_cons]
    show y - x + 1 + gone (r.take (2 * (r.length / 2))) = y - x + 1 + gone r
    rw [gone_all r]
theorem up_lt {n : Nat} : ∀ {ms : List Nat} {s j m c : Nat}, P9.Up n s ms → ms[j]? = some m → ms[j + 1]? = some c → m < c
  | [], s, j, m, c, h, h1, h2 => by cases h1
  | [x], s, j, m, c, h, h1, h2 => by simp at h2
  | x :: y :: r, s, 0, m, c, h, h1, h2 => by cases h1; cases h2; have := h.2.2.1; omega
  | x :: y :: r, s, j + 1, m, c, h, h1, h2 => up_lt (ms := y :: r) (j := j) h.2.2 (by simpa using h1) (by simpa using h2)
def kindS (kd : Bool) : Str := if kd then "list" else "tuple"
def wantL (its : List P9.Itm) (kd : Bool) : List D := if its.any isMk then match walk false 0 its with
    | none => [.str "TypeError", .str msgCat]
    | some ms => if bare its.length 0 ms then [.str "answer", .str ""] else [.str "TypeError", .str (msgJoin kd)]
  else [.str "the very one", .str ""]
theorem want_eq (its : List P9.Itm) : want its 0 its = walk false 0 its := (want_walk its its 0 rfl).trans (by rw [odd_zero])
theorem kind_msg (kd : Bool) : (("sequence item 0: expected str instance, " ++ kindS kd : Str) ++ " found" : Str) = msgJoin kd := by
  cases kd <;> decide +kernel
section
variable {G : Gr} {n : Nat} {env : Env} {σ : St} {l : List Env}
theorem isNum_ev {i : P9.Itm} : CallD G n (.builtin "isinstance") [itmD i, .raw (.type "int")] (.bool (isNum i)) := by
  cases i with
  | num z => exact .isi_int_int
  | txt x => exact .isi_str_int
def wS (its : List P9.Itm) (kd : Bool) (a : Addr) (ms : List Nat) : St := [("items", .val (.list (its.map itmD))), ("kind", .val (.str (kindS kd))), ("marks", .own a (nums ms))]
theorem wS_nd (its : List P9.Itm) (kd : Bool) (a : Addr) (ms : List Nat) : ((wS its kd a ms).map (·.1)).Nodup := by simp [wS]; decide
set_option maxHeartbeats 4000000 in
theorem want_turn {its : List P9.Itm} {kd : Bool} {i : Nat} {it : P9.Itm} {a : Addr} {ms : List Nat} (T : Tp G) (hl : its.length ≤ 1000) (FE : FEnv env (df 9).scope) (hit : its[i]? = some it) (hJ : want its 0 its = (want its i (its.drop i)).map (ms ++ ·)) (hms : ms.length ≤ i) {body : List Stmt} (hbody : body = (match (df 9).body.drop 2 with | .For _ _ b _ _ :: _ => b | _ => [])) :
    Ex G (n + 1) env (setS "i" (.val (.int (i : Nat))) (wS its kd a ms)) body fun fl σ₂ => (fl = .next ∧ ∃ a ms, want its 0 its = (want its (i + 1) (its.drop (i + 1))).map (ms ++ ·) ∧ ms.length ≤ i + 1 ∧ Sub (wS its kd a ms) σ₂) ∨ (fl = .ret (.list [.str "TypeError", .str msgCat]) ∧ want its 0 its = none) := by
  subst hbody
  obtain ⟨ao, FO⟩ := T.odd
  have hlt : i < its.length := (List.getElem?_eq_some_iff.mp hit).1
  have hdrop : its.drop i = it :: its.drop (i + 1) := by
    rw [List.drop_eq_getElem_cons hlt]; congr 1
    exact (List.getElem?_eq_some_iff.mp hit).2
  rw [hdrop, want] at hJ
  have hget : ∀ {σ : St} {p1 p2 p3 : Pos}, σ.lookup ("items" : Str) = some (.val (.list (its.map itmD))) → σ.lookup ("i" : Str) = some (.val (.int (i : Nat))) → Ev G (n + 1) env σ (.Subscript (.Name "items" p1) (.Name "i" p2) p3) (itmD it) := fun h1 h2 =>
    Ev.item (.name h1) (.name h2) (.list (by omega) (by omega) (by rw [Int.toNat_natCast, List.getElem?_map, hit]; rfl))
  have hodd : ∀ {σ : St} {p1 p2 p3 p4 : Pos}, σ.lookup ("items" : Str) = some (.val (.list (its.map itmD))) → σ.lookup ("i" : Str) = some (.val (.int (i : Nat))) → Tr G (n + 1) env σ (.Call (.Name "_law_odd" p1) [.Name "items" p2, .Name "i" p3] [] p4) (odd its i) := fun h1 h2 =>
    Tr.plain (Ev.call (fn_ev FO (FE.kind rfl)) FO.callee (.cons (.name h1) (.cons (.name h2) .nil)) (odd_ok T (by omega) hl FO)).b .bool
  refine Ex.cons (Ex1.ite (c := isNum it && odd its i) ((Tr.and (Tr.plain (Ev.call (.builtin (FE.kind rfl) T.isi rfl) (.builtin _) (.cons (hget rfl rfl) (.cons (.builtin (FE.kind rfl) T.int rfl) .nil)) isNum_ev).b .bool) fun _ => (Tr.and (c' := true) (hodd rfl rfl) fun _ => .and_nil).cast (Bool.and_true _))) (fun h => ?_) (fun h => Ex.nil ?_))
  · rw [h, if_pos rfl] at hJ
    exact Ex.cons (Ex1.ret (Ev.list (.cons .str (.cons .str .nil)) (by decide)).b (.inr ⟨rfl, hJ⟩))
  · rw [h, if_neg (by decide)] at hJ
    refine Ex.cons (Ex1.ite (c := isMk it && !odd its i) (Tr.and (eq_mk (hget rfl rfl)) fun _ => (Tr.and (c' := true) (Tr.not (hodd rfl rfl)) fun _ => .and_nil).cast (Bool.and_true _)) (fun h2 => ?_) (fun h2 => Ex.nil (Ex.nil (.inl ⟨rfl, a, ms, ?_, by omega, rfl, rfl, rfl, trivial⟩))))
    · rw [h2, if_pos rfl, Option.map_map] at hJ
      refine Ex.one (Ex1.append rfl (.name rfl) (by simp [nums]; unfold sizeLine; omega)) (Ex.nil (Ex.nil (.inl ⟨rfl, a, ms ++ [i], ?_, by simp; omega, rfl, rfl, ?_, trivial⟩)))
      · rw [hJ]
        congr 1
        funext r
        simp
      · show some _ = some _
        simp [nums]
    · rw [h2, if_neg (by decide)] at hJ
      exact hJ
set_option maxHeartbeats 4000000 in
theorem gone_tail {its : List P9.Itm} {kd : Bool} {ms : List Nat} (T : Tp G) (hl : its.length ≤ 1000) (FE : FEnv env (df 9).scope) (hml : ms.length ≤ its.length) (hup : P9.Up its.length 0 ms) (body : List Stmt) (hbody : body = (df 9).body.drop 3) :
    Ex G n env [("items", .val (.list (its.map itmD))), ("kind", .val (.str (kindS kd))), ("marks", .val (.list (nums ms)))] body fun fl _ => fl = .ret (.list (if bare its.length 0 ms then [.str "answer", .str ""] else [.str "TypeError", .str (msgJoin kd)])) := by
  subst hbody
  have hnl : (nums ms).length = ms.length := by simp [nums]
  have hil : (its.map itmD).length = its.length := by simp
  refine Ex.one (Ex1.assign .int (FE.loc rfl)) ?_
  refine Ex.forS (ι := Unit) (f := fun d => setS "j" (.val d)) (ds := (List.range (ms.length / 2)).map fun t => .int ((1 + 2 * t : Nat) : Int)) (fun t _ => [("items", .val (.list (its.map itmD))), ("kind", .val (.str (kindS kd))), ("marks", .val (.list (nums ms))), ("gone", .val (.int (gone (ms.take (2 * t)) : Nat)))]) () ⟨rfl, rfl, rfl, rfl, trivial⟩ (fun _ _ => by simp; decide)
    (EvI.range3 (FE.kind rfl) T.range .int ((Ev.call (.builtin (FE.kind rfl) T.len rfl) (.builtin _) (.cons (.name rfl) .nil) (.len_list (by rw [hnl]; omega))).cast (by rw [hnl])) .int (by omega)) (fun d _ => .name (FE.loc rfl)) ?_ ?_
  · intro t d _ hd
    rw [List.getElem?_map, Option.map_eq_some_iff] at hd
    obtain ⟨j, hj, rfl⟩ := hd
    have hjt : j = t ∧ t < ms.length / 2 := by
      have h1 := (List.getElem?_eq_some_iff.mp hj).1
      rw [List.length_range] at h1
      rw [List.getElem?_range h1] at hj
      exact ⟨(Option.some.inj hj).symm, h1⟩
    obtain ⟨rfl, ht⟩ := hjt
    have h1 : ms[2 * j]? = some ms[2 * j] := List.getElem?_eq_getElem (by omega)
    have h2 : ms[2 * j + 1]? = some ms[2 * j + 1] := List.getElem?_eq_getElem (by omega)
    have hlt := up_lt hup h1 h2
    have hg := gone_take j ms _ _ h1 h2
    generalize ms[2 * j] = m at *
    generalize ms[2 * j + 1] = c at *
    have e1 : (nums ms)[1 + 2 * j]? = some (.int (c : Nat)) := by rw [show 1 + 2 * j = 2 * j + 1 by omega]; simp [nums, h2]
    have e2 : (nums ms)[2 * j]? = some (.int (m : Nat)) := by simp [nums, h1]
    refine Ex.one (Ex1.aug (j := (c : Int) - (m : Int) + 1) (k := (gone (ms.take (2 * (j + 1))) : Nat)) rfl (.binop (.binop (Ev.item (.name rfl) (.name rfl) (.list (by omega) (by omega) ?_)) (Ev.item (.name rfl) (.binop (.name rfl) .int .sub) (.list (by omega) (by omega) ?_)) .sub) .int .add) (FE.loc rfl) (.inl ⟨rfl, ?_⟩)) (Ex.nil ⟨(), rfl, rfl, rfl, rfl, trivial⟩)
    · rw [Int.toNat_natCast]; exact e1
    · rw [show (((1 + 2 * j : Nat) : Int) - 1).toNat = 2 * j by omega]; exact e2
    · rw [hg]; omega
  · intro _
    have e : ((List.range (ms.length / 2)).map fun t => D.int ((1 + 2 * t : Nat) : Int)).length = ms.length / 2 := by simp
    rw [e, gone_all]
    have hb := bare_gone hup
    rw [Nat.zero_add] at hb
    refine Ex.cons (Ex1.ite (c := bare its.length 0 ms) ((Tr.cmp (Ev.name rfl).b (Ev.call (.builtin (FE.kind rfl) T.len rfl) (.builtin _) (.cons (.name rfl) .nil) (.len_list (by rw [hil]; omega))).b .eq_int).cast ?_) (fun h => ?_) (fun h => Ex.nil ?_))
    · rw [hb, hil]
      by_cases hq : gone ms = its.length
      · simp [hq]
      · have : ¬ ((gone ms : Int) = (its.length : Int)) := by omega
        simp [hq, this]
    · rw [h]
      exact Ex.cons (Ex1.ret (Ev.list (.cons .str (.cons .str .nil)) (by decide)).b rfl)
    · rw [h]
      refine Ex.cons (Ex1.ret (Ev.list (.cons .str (.cons ((Ev.binop (.binop .str (.name rfl) (.add_str ?_)) .str (.add_str ?_)).cast (congrArg D.str (kind_msg kd))) .nil)) (sz (by simp))).b rfl)
      · cases kd <;> decide +kernel
      · cases kd <;> decide +kernel
set_option maxHeartbeats 4000000 in
theorem want_ok {its : List P9.Itm} {kd : Bool} (T : Tp G) (hl : its.length ≤ 1000) (hf : ∀ i ∈ its, Fine i) {a : Addr} (F : FnAt G (df 9) a) : CallD G (n + 2) (.ref a) [.list (its.map itmD), .str (kindS kd)] (.list (wantL its kd)) := by
  refine CallD.fn2 (x := "items") (y := "kind") F (fun env FE => ?_)
  have hd := its_data true hf
  have hil : (its.map itmD).length = its.length := by simp
  unfold wantL
  have htest : ∀ {p1 p2 p3 : Pos} {k : Nat}, Tr G (n + 1) env [("items", .val (.list (its.map itmD))), ("kind", .val (.str (kindS kd)))] (.Compare (.Constant (.str "\"") k p1) [.NotIn] [.Name "items" p2] p3) (!its.any isMk) := fun {_ _ _ _} =>
    (Tr.cmp Ev.str.b (Ev.name rfl).b (.notIn_list (k := 1) hd (by decide +kernel) (by decide))).cast (by rw [any_mk])
  cases hm : its.any isMk with
  | false =>
    refine Ex.cons (Ex1.ite (c := true) (htest.cast (by rw [hm]; rfl)) (fun _ => ?_) nofun)
    exact Ex.cons (Ex1.ret (Ev.list (.cons .str (.cons .str .nil)) (by decide)).b rfl)
  | true =>
    rw [if_pos rfl]
    refine Ex.cons (Ex1.ite (c := false) (htest.cast (by rw [hm]; rfl)) nofun (fun _ => Ex.nil ?_))
    refine Ex.step (Ex1.assignF (EvF.list .nil (by decide)) (FE.loc rfl)) ?_
    rintro _ ⟨a₀, rfl⟩
    refine Ex.forJ (ι := Addr × List Nat) (f := fun d => setS "i" (.val d)) (ds := rngList 0 (its.length : Nat)) (fun i p => wS its kd p.1 p.2) (fun i p => want its 0 its = (want its i (its.drop i)).map (p.2 ++ ·) ∧ p.2.length ≤ i) (a₀, []) ⟨?_, Nat.le_refl _⟩ ⟨rfl, rfl, rfl, trivial⟩ (fun i p => wS_nd ..)
      (.of_ev (Ev.call (.builtin (FE.kind rfl) T.range rfl) (.type _) (.cons ((Ev.call (.builtin (FE.kind rfl) T.len rfl) (.builtin _) (.cons (.name rfl) .nil) (.len_list (by rw [hil]; omega))).cast (by rw [hil])) .nil) .range) (.rng (by decide) (by decide) (by omega) (by omega))) (fun d _ => .name (FE.loc rfl)) ?_ ?_
    · rw [List.drop_zero]
      cases want its 0 its <;> simp
    · rintro i d ⟨a, ms⟩ hd ⟨hJ, hms⟩
      obtain ⟨hi, rfl⟩ := rng_get hd
      have hit : its[i]? = some its[i] := List.getElem?_eq_getElem hi
      refine (want_turn T hl FE hit hJ hms rfl).mono fun fl σ₂ q => ?_
      rcases q with ⟨rfl, a, ms, h1, h2, h3⟩ | ⟨rfl, hn⟩
      · exact ⟨(a, ms), ⟨h1, h2⟩, h3⟩
      · show Fl.ret _ = Fl.ret _
        rw [← want_eq, hn]
    · rintro ⟨a, ms⟩ ⟨hJ, hms⟩
      rw [rng_length] at hJ hms
      rw [List.drop_length] at hJ
      have hw : walk false 0 its = some ms := by
        rw [← want_eq, hJ]
        show some (ms ++ []) = _
        rw [List.append_nil]
      rw [hw]
      refine Ex.freeze (x := "marks") rfl ?_
      have hup := walk_up hw
      rw [Nat.zero_add] at hup
      exact gone_tail T hl FE hms hup _ rfl
end
end L09
end Mine
end
section
open PySem PySem.W PyProof.Rows PySem.Calls
set_option maxRecDepth 100000
namespace Mine
namespace L09
open PySem.Challenge
open P9
theorem eqAt_self (A : Around) (s : Shared) (v : Value) : SeqAt.EqAt A s v v true := fun prog w E Q hq => by
  unfold eqBool
  refine wpAny_holding ?_
  rw [if_pos (by simp)]
  exact wpAny_bind (wpAny_rule (wpAny_pure hq))
section
variable {G : Gr} {n : Nat} {env : Env} {σ : St} {l : List Env}
theorem eqAt_str {ok ok' : Addr → Prop} {A : Around} {s : Shared} {v w : Value} {x : Str} (h1 : Rep ok s.heap v (.str x)) (h2 : Rep ok' s.heap w (.str x)) : SeqAt.EqAt A s v w true := by
  cases h1 with | str _ t =>
  cases h2 with | str _ u =>
  have := SeqAt.EqAt.str_str (A := A) (s := s) x t x u
  rwa [show (x == x) = true from by simp] at this
theorem eqAt_raw {ok ok' : Addr → Prop} {A : Around} {s : Shared} {v w th : Value} (h1 : Rep ok s.heap v (.raw th)) (h2 : Rep ok' s.heap w (.raw th)) : SeqAt.EqAt A s v w true := by
  cases h1
  cases h2
  exact eqAt_self _ _ _
theorem CmpD.ne_row {x y : Str} {th : Value} : CmpD G n .NotEq (.list [.str x, .raw th, .str y]) (.list [.str x, .raw th, .str y]) false := fun ok A s E va vb r k f ra rb => by
  cases ra with | list o1 l1 r1 =>
  cases rb with | list o2 l2 r2 =>
  have hz := r1.length.trans r2.length.symm
  have := SeqAt.RcNeAt.lists (A := A) (e := fun _ => true) l1 l2 (by simpa using hz) (by have := r.units; omega) (fun j j1 j2 => by
    obtain ⟨d, hd, p⟩ := r1.getV (List.getElem?_eq_getElem (by simpa using j1))
    obtain ⟨d', hd', q⟩ := r2.getV (List.getElem?_eq_getElem (by simpa using j2))
    rw [hd] at hd'
    cases hd'
    have hm := List.mem_of_getElem? hd
    simp only [List.mem_cons, List.not_mem_nil, or_false] at hm
    rcases hm with rfl | rfl | rfl
    · exact eqAt_str p q
    · exact eqAt_raw p q
    · exact eqAt_str p q)
  rw [show ∀ m, (!(List.range m).all fun _ => true) = false from fun m => by simp] at this
  exact this G.prog G.w E _ ⟨.refl, rfl⟩
/-- a case of the law: what the thing is, what is wanted of it -/
inductive CaseK : D → Str → Str → Prop
  | seq (kd : Bool) (its : List P9.Itm) (a b : Str) : (∀ i ∈ its, Fine i) → its.length ≤ 1000 → wantL its kd = [.str a, .str b] → CaseK (seqD kd (its.map itmD)) a b
  | bytes (b : Array UInt8) : CaseK (.bytes b) "TypeError" "a bytes-like object is required, not 'str'"
  | int (i : Int) : CaseK (.int i) "TypeError" "argument of type 'int' is not iterable"
  | none : CaseK .none "TypeError" "argument of type 'NoneType' is not iterable"
  | bool (b : Bool) : CaseK (.bool b) "TypeError" "argument of type 'bool' is not iterable"
structure Verdict (G : Gr) (th : Value) (a b : Str) : Prop where
  told : ∀ n aT aS, FnAt G (df 10) aT → FnAt G (df 2) aS → CallP G (n + 4) (.ref aT) [.raw (.ref aS), .raw th, .raw th] (.list [.str a, .str b])
  raises : a = "TypeError" → ∀ m, Raises G (m + 2) (.raw th) b
  ok1 : PyData.strOk a = true
  ok2 : PyData.strOk b = true
theorem Verdict.of_raise {th : Value} {b : Str} (T : Tp G) (h : ∀ m, Raises G (m + 2) (.raw th) b) (ok2 : PyData.strOk b = true) : Verdict G th "TypeError" b :=
  ⟨fun n aT aS FT FS => told_x T FS.callee (h (n + 1) aS FS) FT, fun _ => h, by decide +kernel, ok2⟩
theorem raises_odd {th : Value} {d : D} {msg : Str} (h : ∀ n y, CmpX G n .NotIn (.str y) d "TypeError" msg) (hr : Rep (fun _ => True) G.base th d) : ∀ m, Raises G (m + 2) (.raw th) msg := fun m aS FS =>
  CallX.up1 (Mine.CallX.fn1 (x := "addr") FS fun env l FE => ExX.head (ExX1.iteT (TrX.cmp Ev.str (.name rfl) (h _ _)))) (.raw hr)
theorem thing_of {kd : Bool} {its : List P9.Itm} {th : Value} (hr : Rep (fun _ => True) G.base th (seqD kd (its.map itmD))) (hf : ∀ i ∈ its, Fine i) (hl : its.length ≤ 1000) : ∃ a, th = .ref a ∧ Thing G kd a its := by
  have hat : ∀ d ∈ its.map itmD, Atomic d = true := fun d hd => by
    obtain ⟨i, _, rfl⟩ := List.mem_map.mp hd
    cases i <;> rfl
  cases kd with
  | true =>
    cases hr with | list o l rs =>
    exact ⟨_, rfl, ⟨_, l, fun ok h => rs.atomics hat⟩, hf, hl⟩
  | false =>
    cases hr with | tuple o l rs =>
    exact ⟨_, rfl, ⟨_, l, fun ok h => rs.atomics hat⟩, hf, hl⟩
theorem strOk_join (kd : Bool) : PyData.strOk (Str.ofString (msgJoin kd)) = true := by cases kd <;> decide +kernel
theorem verdict_of {th : Value} {d : D} {a b : Str} (T : Tp G) (C : CaseK d a b) (hr : Rep (fun _ => True) G.base th d) : Verdict G th a b := by
  cases C with
  | bytes x => exact .of_raise T (raises_odd (fun n y => CmpX.notIn_bytes) hr) (by decide +kernel)
  | int x => exact .of_raise T (raises_odd (fun n y => CmpX.notIn_int) hr) (by decide +kernel)
  | none => exact .of_raise T (raises_odd (fun n y => CmpX.notIn_none) hr) (by decide +kernel)
  | bool x => exact .of_raise T (raises_odd (fun n y => CmpX.notIn_bool) hr) (by decide +kernel)
  | seq kd its a b hf hl hw =>
    obtain ⟨ad, rfl, TH⟩ := thing_of hr hf hl
    unfold wantL at hw
    cases hm : its.any isMk with
    | false =>
      rw [hm, if_neg (by decide)] at hw
      cases hw
      exact ⟨fun n aT aS FT FS => told_same T FS.callee (CallP.of (strip_same TH hm FS)) FT, fun z => absurd z (by decide), by decide +kernel, by decide +kernel⟩
    | true =>
      rw [hm, if_pos rfl] at hw
      cases hk : walk false 0 its with
      | none =>
        rw [hk] at hw
        cases hw
        exact .of_raise T (fun m aS FS => strip_cat T.toPj TH hm hk FS) (by decide +kernel)
      | some ms =>
        rw [hk] at hw
        cases hb : bare its.length 0 ms with
        | true =>
          dsimp only at hw
          rw [hb, if_pos rfl] at hw
          cases hw
          exact ⟨fun n aT aS FT FS => told_ans T FS.callee (strip_ans (n := n + 1) T.toPj TH hm hk hb FS) FT, fun z => absurd z (by decide), by decide +kernel, by decide +kernel⟩
        | false =>
          dsimp only at hw
          rw [hb, if_neg (by decide)] at hw
          cases hw
          exact .of_raise T (fun m aS FS => strip_join T.toPj TH hm hk hb FS) (strOk_join kd)
theorem wantL_two (its : List P9.Itm) (kd : Bool) : ∃ a b, wantL its kd = [.str a, .str b] := by
  unfold wantL
  split
  · split
    · exact ⟨_, _, rfl⟩
    · split
      · exact ⟨_, _, rfl⟩
      · exact ⟨_, _, rfl⟩
  · exact ⟨_, _, rfl⟩
def lawS (ns : List Int) (its frs : List D) (cs : List D) : St := [("script", .val (.list (ns.map .int))), ("items", .val (.list its)), ("framed", .val (.list frs)), ("cases", .val (.list cs))]
def turnS (ns : List Int) (its frs : List D) (cs : List D) (th : Value) (a b : Str) : St := [("script", .val (.list (ns.map .int))), ("items", .val (.list its)), ("framed", .val (.list frs)), ("cases", .val (.list cs)), ("thing", .val (.raw th)), ("want", .val (.list [.str a, .str b]))]
set_option maxHeartbeats 4000000 in
theorem case_turn {ns : List Int} {its frs cs : List D} {th : Value} {a b : Str} (T : Tp G) (V : Verdict G th a b) (FE : FEnv env (df 11).scope) {body : List Stmt} (hbody : body = (match (df 11).body.drop 6 with | .For _ _ b _ _ :: _ => b | _ => [])) :
    ExP G (n + 5) env (HS G.base env l) (turnS ns its frs cs th a b) body fun fl σ₂ => fl = .next ∧ Sub (lawS ns its frs cs) σ₂ := by
  subst hbody
  obtain ⟨aT, FT⟩ := T.told
  obtain ⟨aS, FS⟩ := T.strip
  obtain ⟨aC, FC⟩ := T.check
  obtain ⟨aP, FP⟩ := T.preF
  have R : Rd G.base env (fpS l) (HS G.base env l) := rdS
  have hd : (D.list [.str a, .str b]).data 1 = true := by
    show (PyData.strOk a && (PyData.strOk b && true)) = true
    rw [V.ok1, V.ok2]; rfl
  have hne : ∀ m, CmpD G m .NotEq (.list [.str a, .str b]) (.list [.str a, .str b]) false := fun m => by
    have := CmpD.ne (G := G) (n := m) (k := 1) hd hd (by decide)
    rwa [eqb_refl hd] at this
  refine ExP.cons R (ExP1.ite R (c := false) (TrP.cmp R (EvP.call rdS tellsS (fn_ev FT (FE.kind rfl)) FT.callee (.cons rdS (.of (fn_ev FS (FE.kind rfl))) (.cons rdS (.of (.name rfl)) (.cons rdS (.of (.name rfl)) .nil))) (V.told (n + 1) aT aS FT FS)) (.of (.name rfl)) (hne _)) nofun (fun _ => ExP.nil ?_))
  by_cases ha : a = "TypeError"
  · refine ExP.cons R (ExP1.ite R (c := true) (.of ((Tr.cmp (Ev.item (ds := [.str a, .str b]) (.name rfl) .int (.list (by decide) (by decide) rfl)).b Ev.str.b .eq_str).cast (decide_eq_true ha))) (fun _ => ?_) nofun)
    subst ha
    have hra := V.raises rfl
    refine ExP.cons R (ExP1.ite R (c := false) (TrP.cmp R (EvP.call rdS tellsS (fn_ev FT (FE.kind rfl)) FT.callee (.cons rdS (.of (fn_ev FC (FE.kind rfl))) (.cons rdS (.of (.name rfl)) (.cons rdS (.of (.name rfl)) .nil))) (told_x T FC.callee (check_x T.toPj (hra (n + 1)) FC) FT)) (.of (.name rfl)) (hne _)) nofun (fun _ => ExP.nil ?_))
    refine ExP.one R (.of (Ex1.assign (Ev.list (.cons .str (.cons (.name rfl) (.cons .str .nil))) (sz (by simp))) (FE.loc rfl))) ?_
    refine ExP.cons R (ExP1.ite R (c := false) (TrP.cmp R (EvP.call rdS tellsS (fn_ev FT (FE.kind rfl)) FT.callee (.cons rdS (.of (fn_ev FP (FE.kind rfl))) (.cons rdS (.of (.name rfl)) (.cons rdS (.of (.name rfl)) .nil))) (told_x T FP.callee (pre_x (n := n) T.toPj (hra n) FP) FT)) (.of (.name rfl)) (hne _)) nofun (fun _ => ExP.nil ?_))
    refine ExP.cons R (ExP1.of (Ex1.ite (c := false) (Tr.cmp (Ev.name rfl).b (Ev.list (.cons .str (.cons (.name rfl) (.cons .str .nil))) (sz (by simp))).b CmpD.ne_row) nofun (fun _ => Ex.nil ?_)))
    exact ExP.nil (ExP.nil ⟨rfl, rfl, rfl, rfl, rfl, trivial⟩)
  · refine ExP.cons R (ExP1.ite R (c := false) (.of ((Tr.cmp (Ev.item (ds := [.str a, .str b]) (.name rfl) .int (.list (by decide) (by decide) rfl)).b Ev.str.b .eq_str).cast (decide_eq_false ha))) nofun (fun _ => ?_))
    exact ExP.nil (ExP.nil ⟨rfl, rfl, rfl, rfl, rfl, trivial⟩)
end
end L09
end Mine
end
section
open PySem PySem.W PyProof.Rows PySem.Calls
set_option maxRecDepth 100000
namespace Mine
namespace L09
open PySem.Challenge
open P9
abbrev Cs := Value × Str × Str
def rawD (c : Cs) : D := .tuple [.raw c.1, .list [.str c.2.1, .str c.2.2]]
def itemD (d : D) : D := match d with
  | .int k => itmD (itemOf k)
  | _ => .none
def frameI (its : List P9.Itm) : List P9.Itm := [.txt "\""] ++ its ++ [.txt "\""]
theorem pick_frame {α : Type} (a b : α) (l : List α) : pickD ([a] ++ l ++ [b]) (some 1) (some (-1)) none = l := by
  rw [pickD_plain]
  have e1 : clipAt ([a] ++ l ++ [b]).length 1 = 1 := by
    unfold clipAt
    simp; omega
  have e2 : clipAt ([a] ++ l ++ [b]).length (-1) = l.length + 1 := by
    unfold clipAt
    simp; omega
  show (List.drop (clipAt _ 1) _).take (clipAt _ (-1) - clipAt _ 1) = l
  rw [e1, e2]
  simp
section
variable {G : Gr} {n : Nat} {env : Env} {σ : St} {l : List Env}
theorem Ev.and2 {a b : Expr} {p : Pos} {d : D} (ha : Ev G n env σ a (.bool true)) (hb : Ev G n env σ b d) : Ev G n env σ (.BoolOp .And [a, b] p) d := fun ok A s E r k i =>
  BoolOp_and (wpAny_mono (ha ok A s E r k i) (fun v s₁ p₁ => by
    obtain ⟨st, rp⟩ := p₁
    cases rp
    refine wpAny_truthy_bool ?_
    exact BoolOp_one (wpAny_mono (hb ok A s₁ E r (st.ext.base k) (i.ext st.ext)) (fun _ _ p₂ => ⟨st.trans p₂.1, p₂.2⟩) fun _ _ x => x)) fun _ _ x => x)
theorem items_out (ns : List Int) : ((ns.map D.int).filter fun _ => true).map itemD = (ns.map itemOf).map itmD := by
  rw [List.filter_eq_self.mpr (by simp), List.map_map, List.map_map]; rfl
set_option maxHeartbeats 4000000 in
theorem tail_ok {ns : List Int} {cs : List Cs} (T : Tp G) (hn : ns.length ≤ 63) (FE : FEnv env (df 11).scope) (hV : ∀ c ∈ cs, Verdict G c.1 c.2.1 c.2.2) (body : List Stmt) (hbody : body = (df 11).body.drop 6) :
    ExP G (n + 5) env (HS G.base env l) (lawS ns ((ns.map itemOf).map itmD) ((frameI (ns.map itemOf)).map itmD) (cs.map rawD)) body fun fl _ => fl = .ret (.bool true) := by
  subst hbody
  obtain ⟨aI, FI⟩ := T.item
  have R : Rd G.base env (fpS l) (HS G.base env l) := rdS
  have hfi : ∀ i ∈ ns.map itemOf, Fine i := fun i hi => by obtain ⟨k, _, rfl⟩ := List.mem_map.mp hi; exact fine_item k
  have hdi : (D.list ((ns.map itemOf).map itmD)).data 1 = true := its_data true hfi
  have hil : ((ns.map itemOf).map itmD).length = ns.length := by simp
  have hfl : ((frameI (ns.map itemOf)).map itmD).length = ns.length + 2 := by simp [frameI]
  refine ExP.forS (f := pairS "thing" "want") (ds := cs.map rawD) R (lawS ns ((ns.map itemOf).map itmD) ((frameI (ns.map itemOf)).map itmD) (cs.map rawD)) ⟨rfl, rfl, rfl, rfl, trivial⟩ (by simp [lawS]; decide) (.of_ev (.name rfl) .list) ?_ ?_ ?_
  · intro d hd
    obtain ⟨c, _, rfl⟩ := List.mem_map.mp hd
    exact AssD.pair (FE.loc rfl) (FE.loc rfl)
  · intro i d hd
    obtain ⟨c, hc, rfl⟩ := List.mem_map.mp (List.mem_of_getElem? hd)
    obtain ⟨th, a, b⟩ := c
    refine ExP.mono (case_turn (n := n) (ns := ns) (its := (ns.map itemOf).map itmD) (frs := (frameI (ns.map itemOf)).map itmD) (cs := cs.map rawD) T (hV _ hc) FE rfl) fun fl σ₂ q => ?_
    obtain ⟨rfl, q⟩ := q
    exact q
  · refine ExP.of ?_
    refine Ex.cons (Ex1.ite (c := false) ((Tr.cmp (Ev.name rfl).b (EvF.comp (CompOk.mk' (σc := []) (ds := ns.map .int) (f := fun d => setS "x" (.val d)) (keep := fun _ => true) (res := itemD) (out := (ns.map itemOf).map itmD) FE trivial (.of_ev (.name rfl) .list) (fun d _ => trivial) (fun cenv CE d hd => ?_) ?_ (items_out ns))).ev.b (.ne (k := 1) hdi hdi (by decide))).cast (by rw [eqb_refl (n := 1) hdi]; rfl)) nofun (fun _ => Ex.nil ?_))
    · obtain ⟨k, hk, rfl⟩ := List.mem_map.mp hd
      exact ⟨.name (CE.loc rfl), .nil, fun _ => .call (fn_ev FI (CE.glob rfl)) FI.callee (.cons (.name rfl) .nil) (item_ok T FI)⟩
    · rw [List.length_map]; unfold sizeLine; omega
    refine Ex.cons (Ex1.ret (Ev.and2 ((Ev.cmp (db := .list ((ns.map itemOf).map itmD)) (Ev.item (.name rfl) (.slice (.some .int) (.some (.neg .int)) .none) (.slice rfl rfl rfl nofun (by rw [hfl]; exact sz (by omega)))).b (Ev.name rfl).b (.eq (k := 1) ?_ hdi (by decide))).cast ?_) ((Ev.cmp (Ev.call (.builtin (FE.kind rfl) T.len rfl) (.builtin _) (.cons (.name rfl) .nil) (.len_list (by rw [hfl]; omega))).b (Ev.binop (Ev.call (.builtin (FE.kind rfl) T.len rfl) (.builtin _) (.cons (.name rfl) .nil) (.len_list (by rw [hil]; omega))) .int .add).b .eq_int).cast ?_)).b rfl)
    · show (D.list (pickD _ (some 1) (some (-1)) none)).data 1 = true
      rw [pickD_map, frameI, pick_frame]
      exact hdi
    · show D.bool ((D.list (pickD _ (some 1) (some (-1)) none)).eqb _) = _
      rw [pickD_map, frameI, pick_frame]
      rw [eqb_refl (n := 1) (d := .list ((ns.map itemOf).map itmD)) hdi]
    · rw [hfl, hil]
      congr 1
      simp
end
end L09
end Mine
end
section
open PySem PySem.W PyProof.Rows PySem.Calls
set_option maxRecDepth 100000
namespace Mine
namespace L09
open PySem.Challenge
open P9
/-- a case, said all the way down -/
abbrev Cd := D × Str × Str
def caseD (c : Cd) : D := .tuple [c.1, .list [.str c.2.1, .str c.2.2]]
section
variable {G : Gr} {n : Nat} {env : Env} {σ : St} {l : List Env}
theorem hideL_node {A : Around} {h : Heap} {ok : Addr → Prop} {a : Addr} (hS : HS G.base env l A h) (i : Inv G.base ok env σ h) (nd : IsNode h a) (no : a ∉ owned σ) : a ∉ hideL env σ l := fun m => by
  have nf := node_not_frame i.frame nd
  unfold hideL at m
  simp only [List.mem_cons, List.mem_append, List.mem_filterMap] at m
  rcases m with m | ⟨⟨x, y⟩, hm, hl⟩ | m | ⟨e, he, hf⟩
  · exact nf (.inl m)
  · exact nf (.inr ⟨x, hl⟩)
  · exact no m
  · obtain ⟨_, L, m, q1, q2, q3, _⟩ := hS.2.2 e he
    rw [q1] at hf; cases hf
    exact ns_not_node q3 nd
/-- another word on a name's value -/
theorem Inv.reval {base h : Heap} {ok : Addr → Prop} {x : Str} {d d' : D} {v : Value} (i : Inv base ok env σ h) (hl : σ.lookup x = some (.val d)) (hv : Holds env h x v) (r : Rep (okO ok σ) h v d') : Inv base ok env (setS x (.val d') σ) h := by
  have up : ∀ b, okO ok σ b → okO ok (setS x (.val d') σ) b := fun b q => ⟨q.1, fun z => q.2 (owned_setS_val z)⟩
  refine ⟨i.frame, fun b w => i.off b (w.imp id owned_setS_val), i.fresh, fun y e q => ?_, fun y b es q => ?_, fun b w => i.there b (owned_setS_val w), nodup_setS_val i.once⟩
  · by_cases hy : y = x
    · subst hy
      rw [lookup_setS_self] at q; cases q
      exact ⟨v, hv, r.weak up⟩
    · rw [lookup_setS_ne hy] at q
      obtain ⟨u, p, r⟩ := i.vals y e q
      exact ⟨u, p, r.weak up⟩
  · by_cases hy : y = x
    · subst hy; rw [lookup_setS_self] at q; cases q
    · rw [lookup_setS_ne hy] at q
      obtain ⟨p, o, vs, lv, rs⟩ := i.owns y b es q
      exact ⟨p, o, vs, lv, rs.weak up⟩
theorem raws_of {ok : Addr → Prop} {h : Heap} : ∀ {cs : List Cd} {vs : List Value}, RepAll ok h vs (cs.map caseD) → ∃ rs : List Cs, RepAll ok h vs (rs.map rawD) ∧ ∀ r ∈ rs, ∃ c ∈ cs, c.2 = r.2 ∧ Rep ok h r.1 c.1
  | [], vs, q => by cases q; exact ⟨[], .nil, nofun⟩
  | c :: cs, vs, q => by
    cases q with
    | @cons v vs _ _ p q =>
      obtain ⟨rs, h1, h2⟩ := raws_of q
      cases p with | tuple o t ps =>
      cases ps with | cons p1 ps =>
      cases ps with | cons p2 ps =>
      cases ps
      rename_i v1 v2
      refine ⟨(v1, c.2) :: rs, .cons (.tuple o t (.cons (.raw _) (.cons p2 .nil))) h1, fun r hr => ?_⟩
      rcases List.mem_cons.mp hr with rfl | hr
      · exact ⟨c, .head _, rfl, p1⟩
      · obtain ⟨c', hc', e, w⟩ := h2 r hr
        exact ⟨c', .tail _ hc', e, w⟩
set_option maxHeartbeats 4000000 in
theorem tail_grow {ns : List Int} {cs : List Cd} {ac : Addr} (T : Tp G) (hn : ns.length ≤ 63) (FE : FEnv env (df 11).scope) (hC : ∀ c ∈ cs, CaseK c.1 c.2.1 c.2.2) (body : List Stmt) (hbody : body = (df 11).body.drop 6) :
    ExP G (n + 5) env (HS G.base env l) [("script", .val (.list (ns.map .int))), ("items", .val (.list ((ns.map itemOf).map itmD))), ("framed", .val (.list ((frameI (ns.map itemOf)).map itmD))), ("cases", .own ac (cs.map caseD))] body fun fl _ => fl = .ret (.bool true) := by
  refine ExP.freeze (x := "cases") rfl ?_
  refine ExP.only (σ₀ := lawS ns ((ns.map itemOf).map itmD) ((frameI (ns.map itemOf)).map itmD) (cs.map caseD)) ⟨rfl, rfl, rfl, rfl, trivial⟩ ?_ (by simp [lawS]; decide)
  intro ok A s E hS r kb i
  have hno : owned (lawS ns ((ns.map itemOf).map itmD) ((frameI (ns.map itemOf)).map itmD) (cs.map caseD)) = [] := rfl
  generalize hσ : lawS ns ((ns.map itemOf).map itmD) ((frameI (ns.map itemOf)).map itmD) (cs.map caseD) = σ at *
  have hlc : σ.lookup ("cases" : Str) = some (.val (.list (cs.map caseD))) := by rw [← hσ]; rfl
  have hoff : ∀ a ∈ hideL env σ l, G.base.get? a = none := fun a m => by
    unfold hideL at m
    simp only [List.mem_cons, List.mem_append, List.mem_filterMap] at m
    rcases m with m | ⟨⟨x, y⟩, hm, hl⟩ | m | ⟨e, he, hf⟩
    · exact i.off _ (.inl (.inl m))
    · exact i.off _ (.inl (.inr ⟨x, hl⟩))
    · exact i.off _ (.inr m)
    · obtain ⟨_, L, m, q1, q2, _⟩ := hS.2.2 e he
      rw [q1] at hf; cases hf; exact q2
  have k : G.base.StaysIn (hideAll s.heap (hideL env σ l)) := fun a o e => hideAll_get _ (kb a o e) fun m => by rw [hoff a m] at e; cases e
  have k2 : (hideAll s.heap (hideL env σ l)).StaysIn s.heap := fun a o e => of_hideAll _ e
  have hS2 : HS (hideAll s.heap (hideL env σ l)) env l A s.heap := ⟨hS.1, hS.2.1, fun e he => by
    obtain ⟨q0, L, m, q1, q2, q3, q4⟩ := hS.2.2 e he
    exact ⟨q0, L, m, q1, hideAll_none _ (hideL_stk he q1), q3, q4⟩⟩
  have i2 : Inv (hideAll s.heap (hideL env σ l)) ok env σ s.heap := i.turn fun a w => hideAll_none _ (hideL_wr w)
  have hnode : ∀ a, okO ok σ a → IsNode s.heap a → ¬ (a ∈ hideL env σ l) := fun a q nd => hideL_node hS i nd q.2
  have hX : ExtBut (hideAll s.heap (hideL env σ l)) (· ∈ hideL env σ l) s.heap (hideAll s.heap (hideL env σ l)) := fun b o w e => ⟨o, hideAll_get _ e w, rfl, rfl, fun _ => rfl⟩
  generalize hB : hideAll s.heap (hideL env σ l) = B at *
  obtain ⟨v, hv, rv⟩ := i2.vals "cases" _ hlc
  obtain ⟨rs, rr, hrs⟩ : ∃ rs : List Cs, Rep (okO ok σ) s.heap v (.list (rs.map rawD)) ∧ ∀ r ∈ rs, ∃ c ∈ cs, c.2 = r.2 ∧ Rep (okO ok σ) s.heap r.1 c.1 := by
    cases rv with | list o lst ps =>
    obtain ⟨rs, h1, h2⟩ := raws_of ps
    exact ⟨rs, .list o lst h1, h2⟩
  have i3 := Inv.reval i2 hlc hv rr
  have hV : ∀ c ∈ rs, Verdict (G.grow B k) c.1 c.2.1 c.2.2 := fun c hc => by
    obtain ⟨c', hc', e, w⟩ := hrs c hc
    have := verdict_of (G := G.grow B k) (T.grow) (hC c' hc') (w.extBut hX hnode fun _ _ _ => trivial)
    rw [e] at this; exact this
  have fin := tail_ok (n := n) (l := l) (ns := ns) (cs := rs) (G := G.grow B k) (T.grow) hn FE hV body hbody
  have hsub : Sub (lawS ns ((ns.map itemOf).map itmD) ((frameI (ns.map itemOf)).map itmD) (rs.map rawD)) (setS "cases" (.val (.list (rs.map rawD))) σ) := by rw [← hσ]; exact ⟨rfl, rfl, rfl, rfl, trivial⟩
  have fin2 := ExP.only hsub fin (by simp [lawS]; decide)
  refine wpAny_mono (fin2 ok A s E hS2 r k2 i3) (fun f s' a => ?_) fun _ _ x => x
  have a2 : After (G.grow B k) env σ ok s (fun fl _ => fl = .ret (.bool true)) f s' := a.sub fun b w => owned_setS_val w
  exact a2.less
end
end L09
end Mine
end
section
open PySem PySem.W PyProof.Rows PySem.Calls
set_option maxRecDepth 100000
namespace Mine
namespace L09
open PySem.Challenge
open P9
def msgBytes : Str := "a bytes-like object is required, not 'str'"
def msgInt : Str := "argument of type 'int' is not iterable"
def msgNone : Str := "argument of type 'NoneType' is not iterable"
def msgBool : Str := "argument of type 'bool' is not iterable"
def w1 (its : List P9.Itm) (kd : Bool) : Str × Str := match wantL its kd with
  | [.str a, .str b] => (a, b)
  | _ => ("", "")
theorem wantL_w1 (its : List P9.Itm) (kd : Bool) : wantL its kd = [.str (w1 its kd).1, .str (w1 its kd).2] := by
  obtain ⟨a, b, h⟩ := wantL_two its kd
  unfold w1
  rw [h]
def seqC (its : List P9.Itm) (kd : Bool) : Cd := (seqD kd (its.map itmD), w1 its kd)
theorem seqC_ok {its : List P9.Itm} (kd : Bool) (hf : ∀ i ∈ its, Fine i) (hl : its.length ≤ 1000) : CaseK (seqC its kd).1 (seqC its kd).2.1 (seqC its kd).2.2 := .seq kd its _ _ hf hl (wantL_w1 its kd)
def modB (ns : List Int) : List Int := ns.map fun x => x.fmod 256
def six (ns : List Int) : List Cd := [seqC (ns.map itemOf) true, seqC (ns.map itemOf) false, seqC (frameI (ns.map itemOf)) true, seqC (frameI (ns.map itemOf)) false, (.list (((ns.map itemOf).filter fun i => !isMk i).map itmD), "the very one", ""), (.bytes (byteArr (modB ns)), "TypeError", msgBytes)]
def intC (x : Int) : Cd := (.int x, "TypeError", msgInt)
def xsOf (ns : List Int) : List Int := pickD ns none none (some 16) ++ [(ns.length : Int)]
def allC (ns : List Int) : List Cd := six ns ++ (xsOf ns).map intC ++ ([(D.none, "TypeError", msgNone)] : List Cd) ++ ([(D.bool true, "TypeError", msgBool)] : List Cd)
theorem fine_items (ns : List Int) : ∀ i ∈ ns.map itemOf, Fine i := fun i hi => by obtain ⟨k, _, rfl⟩ := List.mem_map.mp hi; exact fine_item k
theorem fine_frame (ns : List Int) : ∀ i ∈ frameI (ns.map itemOf), Fine i := fun i hi => by
  unfold frameI at hi
  rcases List.mem_append.mp hi with hi | hi
  · rcases List.mem_append.mp hi with hi | hi
    · rw [List.mem_singleton.mp hi]; exact ⟨by decide, by decide +kernel⟩
    · exact fine_items ns i hi
  · rw [List.mem_singleton.mp hi]; exact ⟨by decide, by decide +kernel⟩
theorem frame_len (ns : List Int) : (frameI (ns.map itemOf)).length = ns.length + 2 := by simp [frameI]
theorem allC_ok {ns : List Int} (hn : ns.length ≤ 63) : ∀ c ∈ allC ns, CaseK c.1 c.2.1 c.2.2 := fun c hc => by
  have hil : (ns.map itemOf).length = ns.length := by simp
  have hfl := frame_len ns
  unfold allC at hc
  rcases List.mem_append.mp hc with hc | hc
  · rcases List.mem_append.mp hc with hc | hc
    · rcases List.mem_append.mp hc with hc | hc
      · unfold six at hc
        simp only [List.mem_cons, List.not_mem_nil, or_false] at hc
        rcases hc with rfl | rfl | rfl | rfl | rfl | rfl
        · exact seqC_ok _ (fine_items ns) (by omega)
        · exact seqC_ok _ (fine_items ns) (by omega)
        · exact seqC_ok _ (fine_frame ns) (by omega)
        · exact seqC_ok _ (fine_frame ns) (by omega)
        · refine CaseK.seq true ((ns.map itemOf).filter fun i => !isMk i) "the very one" "" (fun i hi => fine_items ns i (List.mem_filter.mp hi).1) ?_ ?_
          · have := List.length_filter_le (fun i => !isMk i) (ns.map itemOf)
            omega
          · unfold wantL
            have : (((ns.map itemOf).filter fun i => !isMk i).any isMk) = false := by
              rw [List.any_eq_false]
              intro i hi
              have := (List.mem_filter.mp hi).2
              simpa using this
            rw [this]; rfl
        · exact .bytes _
      · obtain ⟨x, _, rfl⟩ := List.mem_map.mp hc
        exact .int _
    · rw [List.mem_singleton.mp hc]; exact .none
  · rw [List.mem_singleton.mp hc]; exact .bool _
def modD (d : D) : D := match d with
  | .int k => .int (k.fmod 256)
  | _ => .none
theorem mod_out (ns : List Int) : ((ns.map D.int).filter fun _ => true).map modD = (modB ns).map .int := by
  rw [List.filter_eq_self.mpr (by simp), List.map_map]; unfold modB; rw [List.map_map]; rfl
def notMk (d : D) : Bool := !d.eqb (.str "\"")
theorem filt_out (its : List P9.Itm) : ((its.map itmD).filter notMk).map (fun d => d) = (its.filter fun i => !isMk i).map itmD := by
  rw [List.filter_map, List.map_map]
  congr 1
  congr 1
  funext i
  show (!(itmD i).eqb _) = _
  rw [eqb_mk]
section
variable {G : Gr} {n : Nat} {env : Env} {σ : St} {l : List Env}
theorem CmpD.ne_int_str {i : Int} {x : Str} (h : PyData.strOk x = true) : CmpD G n .NotEq (.int i) (.str x) true := CmpD.ne (k := 0) rfl h (by decide)
theorem ne_mk {i : P9.Itm} {e : Expr} {p1 p2 : Pos} {k : Nat} (h : Ev G n env σ e (itmD i)) : Tr G n env σ (.Compare e [.NotEq] [.Constant (.str "\"") k p1] p2) (notMk (itmD i)) := by
  unfold notMk
  rw [eqb_mk]
  cases i with
  | num z => exact Tr.cmp h.b Ev.str.b (CmpD.ne_int_str (by decide +kernel))
  | txt x => exact Tr.cmp h.b Ev.str.b .ne_str
def preS (ns : List Int) : St := [("script", .val (.list (ns.map .int))), ("items", .val (.list ((ns.map itemOf).map itmD))), ("framed", .val (.list ((frameI (ns.map itemOf)).map itmD)))]
def caS (ns : List Int) (a : Addr) (cs : List Cd) : St := [("script", .val (.list (ns.map .int))), ("items", .val (.list ((ns.map itemOf).map itmD))), ("framed", .val (.list ((frameI (ns.map itemOf)).map itmD))), ("cases", .own a (cs.map caseD))]
set_option maxHeartbeats 8000000 in
theorem six_ok {ns : List Int} (T : Tp G) (hn : ns.length ≤ 63) (FE : FEnv env (df 11).scope) {st : Stmt} (hst : some st = (df 11).body[2]?) :
    Ex1 G (n + 5) env (preS ns) st fun fl σ' => fl = .next ∧ ∃ a, σ' = setS "cases" (.own a ((six ns).map caseD)) (preS ns) := by
  have hst' : st = ((df 11).body[2]?).getD st := by rw [← hst]; rfl
  rw [hst']
  obtain ⟨aW, FW⟩ := T.want
  have hil : ((ns.map itemOf).map itmD).length = ns.length := by simp
  have hfl : ((frameI (ns.map itemOf)).map itmD).length = ns.length + 2 := by simp [frameI]
  have hil2 : (ns.map itemOf).length ≤ 1000 := by simp; omega
  have hfl2 : (frameI (ns.map itemOf)).length ≤ 1000 := by rw [frame_len]; omega
  have hw : ∀ (its : List P9.Itm) (kd : Bool), its.length ≤ 1000 → (∀ i ∈ its, Fine i) → CallD G (n + 5) (.ref aW) [.list (its.map itmD), .str (kindS kd)] (.list [.str (w1 its kd).1, .str (w1 its kd).2]) := fun its kd h1 h2 => by
    have := want_ok (n := n + 3) (kd := kd) T h1 h2 FW
    rwa [wantL_w1] at this
  refine Ex1.assignF (EvF.list (.cons (Ev.tuple (.cons (.name rfl) (.cons (Ev.call (fn_ev FW (FE.kind rfl)) FW.callee (.cons (.name rfl) (.cons .str .nil)) (hw (ns.map itemOf) true hil2 (fine_items ns))) .nil)) (sz (by simp)))
    (.cons (Ev.tuple (.cons (Ev.call (.builtin (FE.kind rfl) T.tuple rfl) (.type _) (.cons (.name rfl) .nil) (.tupleOf (by rw [hil]; exact sz (by omega)))) (.cons (Ev.call (fn_ev FW (FE.kind rfl)) FW.callee (.cons (.name rfl) (.cons .str .nil)) (hw (ns.map itemOf) false hil2 (fine_items ns))) .nil)) (sz (by simp)))
    (.cons (Ev.tuple (.cons (.name rfl) (.cons (Ev.call (fn_ev FW (FE.kind rfl)) FW.callee (.cons (.name rfl) (.cons .str .nil)) (hw (frameI (ns.map itemOf)) true hfl2 (fine_frame ns))) .nil)) (sz (by simp)))
    (.cons (Ev.tuple (.cons (Ev.call (.builtin (FE.kind rfl) T.tuple rfl) (.type _) (.cons (.name rfl) .nil) (.tupleOf (by rw [hfl]; exact sz (by omega)))) (.cons (Ev.call (fn_ev FW (FE.kind rfl)) FW.callee (.cons (.name rfl) (.cons .str .nil)) (hw (frameI (ns.map itemOf)) false hfl2 (fine_frame ns))) .nil)) (sz (by simp)))
    (.cons (Ev.tuple (.cons (EvF.comp (CompOk.mk' (σc := []) (ds := (ns.map itemOf).map itmD) (f := fun d => setS "item" (.val d)) (keep := notMk) (res := fun d => d) (out := ((ns.map itemOf).filter fun i => !isMk i).map itmD) FE trivial (.of_ev (.name rfl) .list) (fun d _ => trivial) (fun cenv CE d hd => ?_) ?_ (filt_out _))).ev (.cons (Ev.list (.cons .str (.cons .str .nil)) (sz (by simp))) .nil)) (sz (by simp)))
    (.cons (Ev.tuple (.cons (Ev.call (.builtin (FE.kind rfl) T.bytes rfl) (.type _) (.cons (EvF.comp (CompOk.mk' (σc := []) (ds := ns.map .int) (f := fun d => setS "x" (.val d)) (keep := fun _ => true) (res := modD) (out := (modB ns).map .int) FE trivial (.of_ev (.name rfl) .list) (fun d _ => trivial) (fun cenv CE d hd => ?_) ?_ (mod_out ns))).ev .nil) (.bytes ?_ ?_)) (.cons (Ev.list (.cons .str (.cons .str .nil)) (sz (by simp))) .nil)) (sz (by simp)))
    .nil)))))) (sz (by simp [six]))) (FE.loc rfl)
  · obtain ⟨i, hi, rfl⟩ := List.mem_map.mp hd
    exact ⟨.name (CE.loc rfl), .one (ne_mk (.name rfl)), fun _ => .name rfl⟩
  · rw [hil]; unfold sizeLine; omega
  · obtain ⟨k, hk, rfl⟩ := List.mem_map.mp hd
    exact ⟨.name (CE.loc rfl), .nil, fun _ => .binop (.name rfl) .int (.mod (by decide))⟩
  · rw [List.length_map]; unfold sizeLine; omega
  · intro x hx
    unfold modB at hx
    obtain ⟨k, _, rfl⟩ := List.mem_map.mp hx
    exact fmod_lt k 256 (by decide)
  · unfold modB; rw [List.length_map]; exact sz (by omega)
end
end L09
end Mine
end
section
open PySem PySem.W PyProof.Rows PySem.Calls
set_option maxRecDepth 100000
namespace Mine
namespace L09
open PySem.Challenge
open P9
theorem xs_len (ns : List Int) : (xsOf ns).length ≤ ns.length + 1 := by
  unfold xsOf
  have := pickD_length_le ns none none (some 16)
  simp; omega
section
variable {G : Gr} {n : Nat} {env : Env} {σ : St} {l : List Env}
theorem caS_nd (ns : List Int) (a : Addr) (cs : List Cd) : ((caS ns a cs).map (·.1)).Nodup := by simp [caS]; decide
set_option maxHeartbeats 4000000 in
theorem end_ok {ns : List Int} {a : Addr} (T : Tp G) (hn : ns.length ≤ 63) (FE : FEnv env (df 11).scope) (body : List Stmt) (hbody : body = (df 11).body.drop 4) :
    ExP G (n + 5) env (HS G.base env l) (caS ns a (six ns ++ (xsOf ns).map intC)) body fun fl _ => fl = .ret (.bool true) := by
  subst hbody
  have R : Rd G.base env (fpS l) (HS G.base env l) := rdS
  have hx := xs_len ns
  have hz : ((six ns ++ (xsOf ns).map intC).map caseD).length ≤ 100 := by simp [six]; omega
  refine ExP.one R (.of (Ex1.append (d := caseD (D.none, "TypeError", msgNone)) rfl (Ev.tuple (.cons .none (.cons (Ev.list (.cons .str (.cons .str .nil)) (sz (by simp))) .nil)) (sz (by simp))) (by unfold sizeLine; omega))) ?_
  refine ExP.one R (.of (Ex1.append (d := caseD (D.bool true, "TypeError", msgBool)) rfl (Ev.tuple (.cons .bool (.cons (Ev.list (.cons .str (.cons .str .nil)) (sz (by simp))) .nil)) (sz (by simp))) (by rw [List.length_append]; unfold sizeLine; simp only [List.length_singleton]; omega))) ?_
  refine ExP.only (σ₀ := caS ns a (allC ns)) ⟨rfl, rfl, rfl, ?_, trivial⟩ ?_ (caS_nd ..)
  · show some _ = some _
    unfold allC
    simp only [List.map_append, List.map_cons, List.map_nil]
  · exact tail_grow T hn FE (allC_ok hn) _ rfl
set_option maxHeartbeats 4000000 in
theorem law_call {ns : List Int} (T : Tp G) (hn : ns.length ≤ 63) {a : Addr} (F : FnAt G (df 11) a) : CallP G (n + 6) (.ref a) [.list (ns.map .int)] (.bool true) := by
  refine CallP.fn1 (x := "script") F (fun env l FE => ?_)
  obtain ⟨aI, FI⟩ := T.item
  have R : Rd G.base env (fpS l) (HS G.base env l) := rdS
  have hil : ((ns.map itemOf).map itmD).length = ns.length := by simp
  have hxl := xs_len ns
  refine ExP.step R (.of (Ex1.assignComp (CompOk.mk' (σc := []) (ds := ns.map .int) (f := fun d => setS "x" (.val d)) (keep := fun _ => true) (res := itemD) (out := (ns.map itemOf).map itmD) FE trivial (.of_ev (.name rfl) .list) (fun d _ => trivial) (fun cenv CE d hd => ?_) ?_ (items_out ns)) (FE.loc rfl) (FE.swaps fun _ => rfl))) ?_
  · obtain ⟨k, hk, rfl⟩ := List.mem_map.mp hd
    exact ⟨.name (CE.loc rfl), .nil, fun _ => .call (fn_ev FI (CE.glob rfl)) FI.callee (.cons (.name rfl) .nil) (item_ok T FI)⟩
  · rw [List.length_map]; unfold sizeLine; omega
  rintro _ ⟨ai, rfl⟩
  refine ExP.freeze (x := "items") rfl ?_
  refine ExP.one R (.of (Ex1.assign (d := .list ((frameI (ns.map itemOf)).map itmD)) ((Ev.binop (.binop (Ev.list (.cons .str .nil) (sz (by simp))) (.name rfl) (.add_list ?_)) (Ev.list (.cons .str .nil) (sz (by simp))) (.add_list ?_)).cast ?_) (FE.loc rfl))) ?_
  · rw [hil]; exact sz (by simp; omega)
  · rw [List.length_append, hil]; exact sz (by simp; omega)
  · unfold frameI; simp only [List.map_append, List.map_cons, List.map_nil]; rfl
  refine ExP.only (σ₀ := preS ns) ⟨rfl, rfl, rfl, trivial⟩ ?_ (by simp [preS]; decide)
  refine ExP.step R (.of (six_ok (n := n) T hn FE rfl)) ?_
  rintro _ ⟨ac, rfl⟩
  refine ExP.step R (P := fun σ' => ∃ a, Sub (caS ns a (six ns ++ (xsOf ns).map intC)) σ') (.of (Ex1.for (f := fun d => setS "x" (.val d)) (ds := (xsOf ns).map .int) (.of_ev ((Ev.binop (Ev.item (.name rfl) (.slice .none .none (.some .int)) (.slice rfl rfl rfl (by simp [D.part]) ?_)) (Ev.list (.cons (Ev.call (.builtin (FE.kind rfl) T.len rfl) (.builtin _) (.cons (.name rfl) .nil) (.len_list ?_)) .nil) (sz (by simp))) (.add_list ?_)).cast ?_) .list) (fun d _ => .name (FE.loc rfl)) (fun i σ' => ∃ a, Sub (caS ns a (six ns ++ ((xsOf ns).take i).map intC)) σ') ⟨ac, rfl, rfl, rfl, ?_, trivial⟩ ?_ ?_)) ?_
  · rw [List.length_map]; exact sz (by omega)
  · rw [List.length_map]; omega
  · have := pickD_length_le (ns.map D.int) none none (some 16)
    rw [List.length_map] at this
    refine Nat.le_trans (Nat.add_le_add this (Nat.le_refl _)) (sz (by simp; omega))
  · show D.list (pickD (ns.map D.int) none none (some 16) ++ [.int ((ns.map D.int).length : Nat)]) = _
    rw [pickD_map, List.length_map]
    unfold xsOf
    rw [List.map_append]; rfl
  · show some _ = some _
    simp
  · rintro i d σ₁ hd ⟨a, hsub⟩
    rw [List.getElem?_map] at hd
    obtain ⟨x, hx, rfl⟩ := Option.map_eq_some_iff.mp hd
    have hlt : i < (xsOf ns).length := (List.getElem?_eq_some_iff.mp hx).1
    have htk : (xsOf ns).take (i + 1) = (xsOf ns).take i ++ [x] := by rw [List.take_add_one, hx]; rfl
    have hsub' := Sub.set (x := "x") (s := .val (.int x)) hsub (by simp [caS]; decide)
    refine Ex.only (σ₀ := [("script", .val (.list (ns.map .int))), ("items", .val (.list ((ns.map itemOf).map itmD))), ("framed", .val (.list ((frameI (ns.map itemOf)).map itmD))), ("cases", .own a ((six ns ++ ((xsOf ns).take i).map intC).map caseD)), ("x", .val (.int x))]) ⟨hsub'.1, hsub'.2.1, hsub'.2.2.1, hsub'.2.2.2.1, lookup_setS_self _, trivial⟩ ?_
    refine Ex.one (Ex1.append (d := caseD (intC x)) rfl (Ev.tuple (.cons (.name rfl) (.cons (Ev.list (.cons .str (.cons .str .nil)) (sz (by simp))) .nil)) (sz (by simp))) ?_) (Ex.nil ⟨a, rfl, rfl, rfl, ?_, trivial⟩)
    · simp [six]; unfold sizeLine; omega
    · show some _ = some _
      rw [htk]; simp
  · rintro σ₁ ⟨a, hsub⟩
    rw [List.length_map, List.take_length] at hsub
    exact ⟨rfl, a, hsub⟩
  · rintro σ₁ ⟨a, hsub⟩
    refine ExP.only hsub ?_ (caS_nd ..)
    exact end_ok T hn FE _ rfl
end
end L09
end Mine
end
section
open PySem PySem.W PyProof.Rows
set_option maxRecDepth 100000 in
set_option maxHeartbeats 8000000 in
theorem PySem.Challenge.cw_dm0097_09_holds : PySem.Challenge.rw_dm0097_09.Holds := by
  w_on; o_law; k_head; (case hw => w_witness2)
  k_fill
  intro w s₀ s₁ mg mb G Y fa o pm cd doc dV kV ho hd hcd hD hmg hg args vals as hpre hlay hrd hwl hlo
  refine Ground.open G ?_
  intro T B D TE TW
  clear hd hcd hD
  wrow_args hpre hlay hrd hwl hlo
  rename_i hL _ _ _ hI _ hc _
  refine Mine.law_finP T hL hI hg (Mine.L09.law_call (n := 0) (F := Mine.fnAt_law T hmg 9 (by kernel_rfl)) ?tp ?len) (by decide) (by intro _; rfl) ?post
  case post => wrow_post
  case len => omega
  case tp => exact {
    len := Mine.free_of T _ (by decide +kernel)
    enum := Mine.free_of T _ (by decide +kernel)
    iter := Mine.fnAt_of T 0 (by kernel_rfl)
    strip := Mine.fnAt_of T 1 (by kernel_rfl)
    check := Mine.fnAt_of T 2 (by kernel_rfl)
    range := Mine.free_of T _ (by decide +kernel)
    divmod := Mine.free_of T _ (by decide +kernel)
    chr := Mine.free_of T _ (by decide +kernel)
    tuple := Mine.free_of T _ (by decide +kernel)
    bytes := Mine.free_of T _ (by decide +kernel)
    str := Mine.free_of T _ (by decide +kernel)
    int := Mine.free_of T _ (by decide +kernel)
    isi := Mine.free_of T _ (by decide +kernel)
    te := Mine.free_of T _ (by decide +kernel)
    preF := Mine.fnAt_of T 3 (by kernel_rfl)
    sign := Mine.fnAt_of T 4 (by kernel_rfl)
    item := Mine.fnAt_of T 5 (by kernel_rfl)
    odd := Mine.fnAt_of T 6 (by kernel_rfl)
    want := Mine.fnAt_of T 7 (by kernel_rfl)
    told := Mine.fnAt_of T 8 (by kernel_rfl) }
end
