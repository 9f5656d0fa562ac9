import PyProof.Rows.All
import Wide.All
import OpenK.AllK
import Wide.FinOn
import Lean
import PySem.Challenge.RW_mr0163_02
open PySem PySem.W PyProof.Rows PySem.Calls
set_option Elab.async false
set_option maxRecDepth 100000
set_option linter.unusedVariables false
set_option linter.unusedSimpArgs false
namespace Mine
set_option maxHeartbeats 8000000 in
open_top hd2 for PySem.Challenge.rw_mr0163_02
end Mine

namespace Mine

/-! ## plain data and what bears it in a heap -/
inductive At where
  | none
  | bool (b : Bool)
  | int (i : Int)
  | str (x : Str)
def At.Is (a : At) (v : Value) : Prop := match a with
  | .none => v = .none
  | .bool b => v = .bool b
  | .int i => ∃ t, v = .int i t
  | .str x => ∃ t, v = .str x t

def All2 {α β : Type} (R : α → β → Prop) : List α → List β → Prop
  | [], [] => True
  | a :: l, b :: r => R a b ∧ All2 R l r
  | _, _ => False
theorem All2.length {α β : Type} {R : α → β → Prop} : ∀ {l : List α} {r : List β}, All2 R l r → l.length = r.length
  | [], [], _ => rfl
  | _ :: _, _ :: _, h => by simp [All2.length h.2]
  | [], _ :: _, h => h.elim
  | _ :: _, [], h => h.elim
theorem All2.mono {α β : Type} {R S : α → β → Prop} (f : ∀ a b, R a b → S a b) : ∀ {l : List α} {r : List β}, All2 R l r → All2 S l r
  | [], [], _ => trivial
  | _ :: _, _ :: _, h => ⟨f _ _ h.1, h.2.mono f⟩
  | [], _ :: _, h => h.elim
  | _ :: _, [], h => h.elim
theorem All2.append {α β : Type} {R : α → β → Prop} : ∀ {l l' : List α} {r r' : List β}, All2 R l r → All2 R l' r' → All2 R (l ++ l') (r ++ r')
  | [], _, [], _, _, h => h
  | _ :: _, _, _ :: _, _, h, k => ⟨h.1, h.2.append k⟩
  | [], _, _ :: _, _, h, _ => h.elim
  | _ :: _, _, [], _, h, _ => h.elim
theorem All2.get {α β : Type} {R : α → β → Prop} : ∀ {l : List α} {r : List β} {i : Nat} {a : α}, All2 R l r → l[i]? = some a → ∃ b, r[i]? = some b ∧ R a b
  | [], [], _, _, _, h => by simp at h
  | _ :: _, b :: _, 0, _, h, e => ⟨b, rfl, by simp at e; exact e ▸ h.1⟩
  | _ :: _, _ :: _, i + 1, _, h, e => by simpa using h.2.get (by simpa using e)
  | [], _ :: _, _, _, h, _ => h.elim
  | _ :: _, [], _, _, h, _ => h.elim
theorem All2.take {α β : Type} {R : α → β → Prop} : ∀ {l : List α} {r : List β} (n : Nat), All2 R l r → All2 R (l.take n) (r.take n)
  | _, _, 0, _ => by simp [All2]
  | [], [], n + 1, h => by simpa using h
  | _ :: _, _ :: _, n + 1, h => ⟨h.1, h.2.take n⟩
  | [], _ :: _, _, h => h.elim
  | _ :: _, [], _, h => h.elim
theorem All2.drop {α β : Type} {R : α → β → Prop} : ∀ {l : List α} {r : List β} (n : Nat), All2 R l r → All2 R (l.drop n) (r.drop n)
  | _, _, 0, h => by simpa using h
  | [], [], n + 1, h => by simpa using h
  | _ :: _, _ :: _, n + 1, h => h.2.drop n
  | [], _ :: _, _, h => h.elim
  | _ :: _, [], _, h => h.elim
theorem All2.rep {α β : Type} {R : α → β → Prop} {a : α} {b : β} (h : R a b) : ∀ n, All2 R (List.replicate n a) (List.replicate n b)
  | 0 => trivial
  | n + 1 => ⟨h, All2.rep h n⟩

inductive Pt where
  | a (x : At)
  | t (l : List At)
def Pt.Is (h : Heap) (p : Pt) (v : Value) : Prop := match p with
  | .a x => x.Is v
  | .t l => ∃ a vs, v = .ref a ∧ IsTup h a vs.toArray ∧ All2 At.Is l vs
abbrev pI (i : Int) : Pt := .a (.int i)
abbrev pS (x : Str) : Pt := .a (.str x)
abbrev pB (b : Bool) : Pt := .a (.bool b)

def Lst (h : Heap) (a : Addr) (ps : List Pt) : Prop := ∃ vs : List Value, h.PlainList a vs.toArray ∧ All2 (Pt.Is h) ps vs

inductive Vl where
  | p (p : Pt)
  | l (ps : List Pt)
  | r (a : Addr)
def Vl.Is (h : Heap) (x : Vl) (v : Value) : Prop := match x with
  | .p q => q.Is h v
  | .l ps => ∃ a, v = .ref a ∧ Lst h a ps
  | .r a => v = .ref a
abbrev vI (i : Int) : Vl := .p (.a (.int i))
abbrev vS (x : Str) : Vl := .p (.a (.str x))
abbrev vB (b : Bool) : Vl := .p (.a (.bool b))

inductive Ct where
  | p (p : Pt)
  | l (a : Addr) (ps : List Pt)
  | r (a : Addr)
def Ct.Is (h : Heap) (x : Ct) (v : Value) : Prop := match x with
  | .p q => q.Is h v
  | .l a ps => v = .ref a ∧ Lst h a ps
  | .r a => v = .ref a
def Ct.vl : Ct → Vl
  | .p q => .p q
  | .l _ ps => .l ps
  | .r a => .r a
abbrev cI (i : Int) : Ct := .p (.a (.int i))
abbrev cS (x : Str) : Ct := .p (.a (.str x))
abbrev cB (b : Bool) : Ct := .p (.a (.bool b))

/-- tuples and lists of h stand in h' -/
abbrev KeepH (h h' : Heap) : Prop := ∀ b o, h.get? b = some o → h'.get? b = some o
/-- all but the object at a -/
abbrev KeepBut (a : Addr) (h h' : Heap) : Prop := ∀ b o, b ≠ a → h.get? b = some o → h'.get? b = some o

/-- no tuple lies at a -/
def NoTup (oa : Obj) : Prop := oa.cls ≠ .type "tuple" ∨ ∀ vs n, oa.data ≠ .seq vs n
theorem Pt.Is.but {h h' : Heap} {a : Addr} {oa : Obj} {p : Pt} {v : Value} (x : p.Is h v) (ha : h.get? a = some oa) (hc : NoTup oa) (k : KeepBut a h h') : p.Is h' v := by
  cases p with
  | a x => exact x
  | t l =>
    obtain ⟨b, vs, e, ⟨o, ho, hcl, n, r⟩, q⟩ := x
    refine ⟨b, vs, e, ⟨o, k b o ?_ ho, hcl, n, r⟩, q⟩
    rintro rfl
    rw [ha] at ho; cases ho; exact hc.elim (fun h => h hcl) fun h => h _ _ r
theorem Pt.Is.keep {h h' : Heap} {p : Pt} {v : Value} (x : p.Is h v) (k : KeepH h h') : p.Is h' v := by
  cases p with
  | a x => exact x
  | t l =>
    obtain ⟨b, vs, e, ⟨o, ho, r⟩, q⟩ := x
    exact ⟨b, vs, e, ⟨o, k b o ho, r⟩, q⟩
theorem Lst.keep {h h' : Heap} {a : Addr} {ps : List Pt} (x : Lst h a ps) (k : KeepH h h') : Lst h' a ps := by
  obtain ⟨vs, ⟨n, e⟩, q⟩ := x
  exact ⟨vs, ⟨n, k _ _ e⟩, q.mono fun _ _ y => y.keep k⟩
theorem Lst.but {h h' : Heap} {a b : Addr} {oa : Obj} {ps : List Pt} (x : Lst h b ps) (ha : h.get? a = some oa) (hc : NoTup oa) (k : KeepBut a h h') (hne : b ≠ a) : Lst h' b ps := by
  obtain ⟨vs, ⟨n, e⟩, q⟩ := x
  exact ⟨vs, ⟨n, k _ _ hne e⟩, q.mono fun _ _ y => y.but ha hc k⟩
theorem Vl.Is.keep {h h' : Heap} {x : Vl} {v : Value} (y : x.Is h v) (k : KeepH h h') : x.Is h' v := by
  cases x with
  | p q => exact Pt.Is.keep (p := q) y k
  | l ps => obtain ⟨a, e, z⟩ := y; exact ⟨a, e, z.keep k⟩
  | r a => exact y
theorem Ct.Is.keep {h h' : Heap} {x : Ct} {v : Value} (y : x.Is h v) (k : KeepH h h') : x.Is h' v := by
  cases x with
  | p q => exact Pt.Is.keep (p := q) y k
  | l a ps => exact ⟨y.1, y.2.keep k⟩
  | r a => exact y
theorem Ct.Is.vl {h : Heap} {x : Ct} {v : Value} (y : x.Is h v) : x.vl.Is h v := by
  cases x with
  | p q => exact y
  | l a ps => exact ⟨a, y.1, y.2⟩
  | r a => exact y
/-- an object that is neither list nor tuple changes: contents stand -/
theorem Ct.Is.other {h h' : Heap} {a : Addr} {oa : Obj} {x : Ct} {v : Value} (y : x.Is h v) (ha : h.get? a = some oa) (hl : ∀ vs n, oa.data ≠ .seq vs n) (k : KeepBut a h h') : x.Is h' v := by
  cases x with
  | p q => exact Pt.Is.but (p := q) y ha (.inr hl) k
  | l b ps =>
    refine ⟨y.1, y.2.but ha (.inr hl) k ?_⟩
    rintro rfl
    obtain ⟨vs, ⟨n, e⟩, _⟩ := y.2
    rw [ha] at e; cases e; exact hl _ _ rfl
  | r b => exact y

/-! ## states -/
/-- only the heap has grown, and fresh signs were taken -/
structure Ext (s s' : Shared) : Prop where
  keep : KeepH s.heap s'.heap
  rest : s' = { s with heap := s'.heap, toks := s'.toks }
theorem Ext.rfl' {s : Shared} : Ext s s := ⟨fun _ _ e => e, rfl⟩
theorem Ext.trans {s s' s'' : Shared} (x : Ext s s') (y : Ext s' s'') : Ext s s'' := ⟨fun b o e => y.keep b o (x.keep b o e), by rw [y.rest, x.rest]⟩
theorem Ext.toks {s : Shared} {n : Nat} : Ext s { s with toks := n } := ⟨fun _ _ e => e, rfl⟩
theorem Ext.push {s : Shared} {o : Obj} : Ext s { s with heap := s.heap.push o } := ⟨fun _ _ e => Heap.get?_push_of_some _ e, rfl⟩
theorem Ext.heap {s : Shared} {h : Heap} (k : KeepH s.heap h) : Ext s { s with heap := h } := ⟨k, rfl⟩
theorem Ext.heapToks {s : Shared} {h : Heap} {n : Nat} (k : KeepH s.heap h) : Ext s { s with heap := h, toks := n } := ⟨k, rfl⟩
theorem Ext.keeps {s s' : Shared} (x : Ext s s') : Keeps s s' := ⟨s'.heap, s'.toks, x.rest, x.keep⟩

structure Amb (K : Frag) (h : Heap) : Prop where
  inK : K.In h
  top : ∃ p loose mg mb, TopRead p loose mg mb h
theorem Amb.keep {K : Frag} {h h' : Heap} (x : Amb K h) (k : KeepH h h') : Amb K h' :=
  ⟨x.inK.keeps k, let ⟨p, l, g, b, T⟩ := x.top; ⟨p, l, g, b, T.keeps k⟩⟩

structure Cx where
  prog : Program
  w : World
  K : Frag
  A : Around
  B : Shared
  env : Env
abbrev Cx.M (c : Cx) : Model := model c.prog c.w

/-- the frame: its names' contents -/
structure Frm (env : Env) (hb h : Heap) (σ : List (Str × Ct)) : Prop where
  kind : env.scope.kind = .function
  glob : env.globals = mainGlobals
  blt : env.builtins = builtinsNs
  newL : hb.get? env.locals = none
  loc : ∃ m, h.Ns env.locals m ∧ ∀ x ct, σ.lookup x = some ct → env.kindOf x = some .local → ∃ v, m x = some v ∧ ct.Is h v
  cel : ∀ x c, env.cells.lookup x = some c → ∃ v, h.IsCell c v
  inj : ∀ x y c, env.cells.lookup x = some c → env.cells.lookup y = some c → x = y
  cv : ∀ x ct, σ.lookup x = some ct → env.kindOf x = some .cell ∨ env.kindOf x = some .free → ∃ c v, env.cells.lookup x = some c ∧ h.IsCell c (some v) ∧ ct.Is h v

/-- tuples stand -/
def KeepT (h h' : Heap) : Prop := ∀ a vs, IsTup h a vs → IsTup h' a vs
theorem KeepT.rfl' {h : Heap} : KeepT h h := fun _ _ x => x
theorem KeepT.of {h h' : Heap} (k : KeepH h h') : KeepT h h' := fun _ _ x => x.keeps k
theorem KeepT.trans {h h' h'' : Heap} (x : KeepT h h') (y : KeepT h' h'') : KeepT h h'' := fun a vs z => y a vs (x a vs z)
theorem Pt.Is.keepT {h h' : Heap} {p : Pt} {v : Value} (x : p.Is h v) (k : KeepT h h') : p.Is h' v := by
  cases p with
  | a x => exact x
  | t l => obtain ⟨b, vs, e, z, q⟩ := x; exact ⟨b, vs, e, k _ _ z, q⟩
theorem KeepT.but {h h' : Heap} {a : Addr} {oa : Obj} (ha : h.get? a = some oa) (hc : NoTup oa) (k : KeepBut a h h') : KeepT h h' := fun b vs ⟨o, ho, hcl, n, r⟩ =>
  ⟨o, k b o (by rintro rfl; rw [ha] at ho; cases ho; exact hc.elim (fun h => h hcl) fun h => h _ _ r) ho, hcl, n, r⟩
/-- what must stand beside the names: some objects, and the tuples of a heap -/
structure Gh where
  objs : List (Addr × Obj)
  tup : Heap
/-- data of iterators, lists, tuples -/
def Flat (d : Data) : Prop := (∃ vs, d = .fields vs) ∨ ∃ vs n, d = .seq vs n
structure Inv (c : Cx) (σ : List (Str × Ct)) (γ : Gh) (s : Shared) : Prop where
  amb : Amb c.K c.B.heap
  keep : KeepH c.B.heap s.heap
  rest : s = { c.B with heap := s.heap, toks := s.toks }
  frm : Frm c.env c.B.heap s.heap σ
  gh : ∀ p ∈ γ.objs, s.heap.get? p.1 = some p.2 ∧ Flat p.2.data
  kt : KeepT γ.tup s.heap
theorem Inv.ambH {c : Cx} {σ : List (Str × Ct)} {γ : Gh} {s : Shared} (x : Inv c σ γ s) : Amb c.K s.heap := x.amb.keep x.keep

theorem Heap.IsCell.keep {h h' : Heap} {c : Addr} {v : Option Value} (x : h.IsCell c v) (k : KeepH h h') : h'.IsCell c v := by
  obtain ⟨o, ho, hd⟩ := x; exact ⟨o, k _ _ ho, hd⟩
theorem Frm.keep {env : Env} {hb h h' : Heap} {σ : List (Str × Ct)} (x : Frm env hb h σ) (k : KeepH h h') : Frm env hb h' σ := by
  refine ⟨x.kind, x.glob, x.blt, x.newL, ?_, fun n c e => ?_, x.inj, fun n ct e hk => ?_⟩
  · obtain ⟨m, hn, hm⟩ := x.loc
    exact ⟨m, hn.keeps k, fun n ct e hk => let ⟨v, hv, y⟩ := hm n ct e hk; ⟨v, hv, y.keep k⟩⟩
  · obtain ⟨v, r⟩ := x.cel n c e; exact ⟨v, Heap.IsCell.keep r k⟩
  · obtain ⟨c, v, e1, e2, e3⟩ := x.cv n ct e hk; exact ⟨c, v, e1, Heap.IsCell.keep e2 k, e3.keep k⟩
theorem Inv.ext {c : Cx} {σ : List (Str × Ct)} {γ : Gh} {s s' : Shared} (x : Inv c σ γ s) (y : Ext s s') : Inv c σ γ s' :=
  ⟨x.amb, fun b o e => y.keep b o (x.keep b o e), by rw [y.rest, x.rest], x.frm.keep y.keep, fun p hp => ⟨y.keep _ _ (x.gh p hp).1, (x.gh p hp).2⟩, x.kt.trans (.of y.keep)⟩
theorem Inv.toExt {c : Cx} {σ : List (Str × Ct)} {γ : Gh} {s : Shared} (x : Inv c σ γ s) : Ext c.B s := ⟨x.keep, x.rest⟩

/-! ## expressions -/
def Exp (c : Cx) (σ : List (Str × Ct)) (γ : Gh) (e : PySem.Expr) (x : Vl) : Prop :=
  ∀ s, Inv c σ γ s → wpAny c.M c.A (eval e c.env) (fun v s' => Ext s s' ∧ x.Is s'.heap v) (fun _ _ => False) s
/-- a test -/
def Tst (c : Cx) (σ : List (Str × Ct)) (γ : Gh) (e : PySem.Expr) (b : Bool) : Prop :=
  ∀ s, Inv c σ γ s → wpAny c.M c.A (isTrue e c.env (eval e c.env)) (fun r s' => Ext s s' ∧ r = b) (fun _ _ => False) s

section
variable {c : Cx} {σ : List (Str × Ct)} {γ : Gh}
abbrev no : Value → Shared → Prop := fun _ _ => False

theorem mono0 {α : Type} {M : Model} {A : Around} {t : Sem α} {Q Q' : α → Shared → Prop} {E : Value → Shared → Prop} {s : Shared} (h : wpAny M A t Q no s) (hQ : ∀ a s', Q a s' → Q' a s') : wpAny M A t Q' E s :=
  wpAny_mono h hQ fun _ _ x => x.elim

theorem Exp.var {x : Str} {pos : Pos} {ct : Ct} {v : Vl} (h : σ.lookup x = some ct) (hv : ct.vl = v) (hk : (c.env.kindOf x == some .local || c.env.kindOf x == some .cell || c.env.kindOf x == some .free) = true)
    (hd : (x == ("__debug__" : Str)) = false := by decide) (hcd : (x == ("__classdict__" : Str)) = false := by decide) : Exp c σ γ (.Name x pos) v := by
  intro s I
  subst hv
  have hk' : c.env.kindOf x = some .local ∨ c.env.kindOf x = some .cell ∨ c.env.kindOf x = some .free := by
    simp only [Bool.or_eq_true, beq_iff_eq] at hk
    rcases hk with (h1 | h1) | h1 <;> simp [h1]
  rcases hk' with hk | hk | hk
  · obtain ⟨m, hn, hm⟩ := I.frm.loc
    obtain ⟨v, hv, y⟩ := hm x ct h hk
    exact wpAny_Name (wpAny_loadName_local I.frm.kind hk hn hv ⟨.rfl', y.vl⟩) hd
  · obtain ⟨a, v, e1, e2, e3⟩ := I.frm.cv x ct h (.inl hk)
    exact wpAny_Name (wpAny_loadName_cell I.frm.kind hk e1 e2 ⟨.rfl', e3.vl⟩) hd
  · obtain ⟨a, v, e1, e2, e3⟩ := I.frm.cv x ct h (.inr hk)
    exact wpAny_Name (wpAny_loadName_free I.frm.kind hk e1 e2 ⟨.rfl', e3.vl⟩ hcd) hd

/-- a global name of the text -/
theorem nameK {x : Str} {pos : Pos} {v : Value} {Q : Value → Shared → Prop} {E : Value → Shared → Prop} {s : Shared} (I : Inv c σ γ s) (e : nsIn c.K mainGlobals x = some (some v))
    (hk : c.env.kindOf x = some .globalImplicit) (h : Q v s) (hd : (x == ("__debug__" : Str)) = false := by decide) : wpAny c.M c.A (eval (.Name x pos) c.env) Q E s := by
  obtain ⟨p, l, mg, mb, T⟩ := I.ambH.top
  exact Name_function_global I.frm.kind hk (loadGlobal_global (by rw [I.frm.glob]; exact T.g) (mg_of I.ambH.inK T.g e) h) hd
theorem nameB {x : Str} {pos : Pos} {v : Value} {Q : Value → Shared → Prop} {E : Value → Shared → Prop} {s : Shared} (I : Inv c σ γ s) (e : nsIn c.K mainGlobals x = some none)
    (hv : bootBuiltins x = some v) (hk : c.env.kindOf x = some .globalImplicit) (h : Q v s) (hn : x ≠ "__name__" := by decide) (hd : (x == ("__debug__" : Str)) = false := by decide) : wpAny c.M c.A (eval (.Name x pos) c.env) Q E s := by
  obtain ⟨p, l, mg, mb, T⟩ := I.ambH.top
  exact Name_function_global I.frm.kind hk (loadGlobal_builtin (by rw [I.frm.glob]; exact T.g) (mg_none_of I.ambH.inK T.g e) (by rw [I.frm.blt]; exact T.b) ((T.builtins x hn).trans hv) h) hd
theorem Exp.globI {x : Str} {pos : Pos} {i : Int} {t : Tok} (e : nsIn c.K mainGlobals x = some (some (.int i t))) (hk : c.env.kindOf x = some .globalImplicit)
    (hd : (x == ("__debug__" : Str)) = false := by decide) : Exp c σ γ (.Name x pos) (vI i) := fun s I => nameK I e hk ⟨.rfl', t, rfl⟩ hd

theorem Exp.cInt {i : Int} {k : Nat} {pos : Pos} : Exp c σ γ (.Constant (.int i) k pos) (vI i) := fun s I => wpAny_Constant_int ⟨.toks, _, rfl⟩
theorem Exp.cStr {x : Str} {k : Nat} {pos : Pos} : Exp c σ γ (.Constant (.str x) k pos) (vS x) := fun s I => Constant_str ⟨.toks, _, rfl⟩
theorem Exp.cBool {b : Bool} {k : Nat} {pos : Pos} : Exp c σ γ (.Constant (.bool b) k pos) (vB b) := fun s I => wpAny_Constant_bool ⟨.rfl', rfl⟩

/-- two operands -/
theorem Exp.bin {l r : PySem.Expr} {op : Operator} {pos : Pos} {x y z : Vl} (h1 : Exp c σ γ l x) (h2 : Exp c σ γ r y)
    (h : ∀ s a b, Inv c σ γ s → x.Is s.heap a → y.Is s.heap b → wpAny c.M c.A (binaryOp op a b) (fun v s' => Ext s s' ∧ z.Is s'.heap v) no s) : Exp c σ γ (.BinOp l op r pos) z := fun s I =>
  wpAny_BinOp (wpAny_mono (h1 s I) (fun a s₁ ⟨e1, q1⟩ => wpAny_mono (h2 s₁ (I.ext e1)) (fun b s₂ ⟨e2, q2⟩ =>
    wpAny_mono (h s₂ a b ((I.ext e1).ext e2) (q1.keep e2.keep) q2) (fun v s' ⟨e3, q3⟩ => ⟨(e1.trans e2).trans e3, q3⟩) fun _ _ x => x) fun _ _ x => x) fun _ _ x => x)
theorem Exp.cmp {l r : PySem.Expr} {op : CmpOp} {pos : Pos} {x y z : Vl} (h1 : Exp c σ γ l x) (h2 : Exp c σ γ r y)
    (h : ∀ s a b, Inv c σ γ s → x.Is s.heap a → y.Is s.heap b → wpAny c.M c.A (compareOp op a b) (fun v s' => Ext s s' ∧ z.Is s'.heap v) no s)
    (hm : behindInMarks op r = false := by with_unfolding_all rfl) : Exp c σ γ (.Compare l [op] [r] pos) z := fun s I =>
  wpAny_Compare1 (wpAny_mono (h1 s I) (fun a s₁ ⟨e1, q1⟩ => wpAny_mono (h2 s₁ (I.ext e1)) (fun b s₂ ⟨e2, q2⟩ =>
    wpAny_mono (h s₂ a b ((I.ext e1).ext e2) (q1.keep e2.keep) q2) (fun v s' ⟨e3, q3⟩ => ⟨(e1.trans e2).trans e3, q3⟩) fun _ _ x => x) fun _ _ x => x) fun _ _ x => x) hm
/-- what a comparison of two contents gives -/
def Cmp (c : Cx) (σ : List (Str × Ct)) (γ : Gh) (op : CmpOp) (x y : Vl) (b : Bool) : Prop :=
  ∀ s a b', Inv c σ γ s → x.Is s.heap a → y.Is s.heap b' → wpAny c.M c.A (compareOp op a b') (fun v s' => Ext s s' ∧ v = .bool b) no s
theorem Exp.cmpB {l r : PySem.Expr} {op : CmpOp} {pos : Pos} {x y : Vl} {b : Bool} (h1 : Exp c σ γ l x) (h2 : Exp c σ γ r y) (h : Cmp c σ γ op x y b)
    (hm : behindInMarks op r = false := by with_unfolding_all rfl) : Exp c σ γ (.Compare l [op] [r] pos) (vB b) := Exp.cmp h1 h2 (fun s a b' I q1 q2 => h s a b' I q1 q2) hm
theorem Tst.cmp {l r : PySem.Expr} {op : CmpOp} {pos : Pos} {x y : Vl} {b : Bool} (h1 : Exp c σ γ l x) (h2 : Exp c σ γ r y) (h : Cmp c σ γ op x y b)
    (hm : behindInMarks op r = false := by with_unfolding_all rfl) : Tst c σ γ (.Compare l [op] [r] pos) b := fun s I =>
  wpAny_isTrue_Compare1 (wpAny_mono (h1 s I) (fun a s₁ ⟨e1, q1⟩ => wpAny_mono (h2 s₁ (I.ext e1)) (fun b' s₂ ⟨e2, q2⟩ =>
    wpAny_mono (h s₂ a b' ((I.ext e1).ext e2) (q1.keep e2.keep) q2) (fun v s' ⟨e3, q3⟩ => by subst q3; exact wpAny_truthy_bool ⟨(e1.trans e2).trans e3, rfl⟩) fun _ _ x => x) fun _ _ x => x) fun _ _ x => x) hm
theorem Tst.not {e : PySem.Expr} {pos : Pos} {b : Bool} (h : Tst c σ γ e b) : Tst c σ γ (.UnaryOp .Not e pos) (!b) := fun s I =>
  wpAny_isTrue_Not (wpAny_mono (h s I) (fun r s' ⟨e1, q⟩ => ⟨e1, by rw [q]⟩) fun _ _ x => x)
end
end Mine

namespace Mine
section
variable {c : Cx} {σ : List (Str × Ct)} {γ : Gh}

theorem Exp.add {l r : PySem.Expr} {pos : Pos} {i j : Int} (h1 : Exp c σ γ l (vI i)) (h2 : Exp c σ γ r (vI j)) : Exp c σ γ (.BinOp l .Add r pos) (vI (i + j)) :=
  .bin h1 h2 fun s a b I q1 q2 => by obtain ⟨t, rfl⟩ := q1; obtain ⟨u, rfl⟩ := q2; exact add_int ⟨.toks, _, rfl⟩
theorem Exp.sub {l r : PySem.Expr} {pos : Pos} {i j : Int} (h1 : Exp c σ γ l (vI i)) (h2 : Exp c σ γ r (vI j)) : Exp c σ γ (.BinOp l .Sub r pos) (vI (i - j)) :=
  .bin h1 h2 fun s a b I q1 q2 => by obtain ⟨t, rfl⟩ := q1; obtain ⟨u, rfl⟩ := q2; exact sub_int ⟨.toks, _, rfl⟩
theorem Exp.mul {l r : PySem.Expr} {pos : Pos} {i j : Int} (h1 : Exp c σ γ l (vI i)) (h2 : Exp c σ γ r (vI j)) (hm : IntMulOk i j) : Exp c σ γ (.BinOp l .Mult r pos) (vI (i * j)) :=
  .bin h1 h2 fun s a b I q1 q2 => by obtain ⟨t, rfl⟩ := q1; obtain ⟨u, rfl⟩ := q2; exact mul_int ⟨.toks, _, rfl⟩ hm
theorem Exp.mod {l r : PySem.Expr} {pos : Pos} {i j : Int} (h1 : Exp c σ γ l (vI i)) (h2 : Exp c σ γ r (vI j)) (hj : j ≠ 0) : Exp c σ γ (.BinOp l .Mod r pos) (vI (i.fmod j)) :=
  .bin h1 h2 fun s a b I q1 q2 => by obtain ⟨t, rfl⟩ := q1; obtain ⟨u, rfl⟩ := q2; exact mod_int' hj ⟨.toks, _, rfl⟩
theorem Exp.fdiv {l r : PySem.Expr} {pos : Pos} {i j : Int} (h1 : Exp c σ γ l (vI i)) (h2 : Exp c σ γ r (vI j)) (hj : j ≠ 0) (hs : j.natAbs < 1073741824) : Exp c σ γ (.BinOp l .FloorDiv r pos) (vI (i.fdiv j)) :=
  .bin h1 h2 fun s a b I q1 q2 => by obtain ⟨t, rfl⟩ := q1; obtain ⟨u, rfl⟩ := q2; exact floordiv_int hj ⟨.toks, _, rfl⟩ (.inl (PyProof.noPylong_small hs))
theorem Exp.addS {l r : PySem.Expr} {pos : Pos} {x y : Str} (h1 : Exp c σ γ l (vS x)) (h2 : Exp c σ γ r (vS y)) (hs : x.length + y.length ≤ sizeLine) : Exp c σ γ (.BinOp l .Add r pos) (vS (x ++ y)) :=
  .bin h1 h2 fun s a b I q1 q2 => by obtain ⟨t, rfl⟩ := q1; obtain ⟨u, rfl⟩ := q2; exact add_str (fun t' tk => ⟨.toks, _, rfl⟩) hs
theorem Exp.neg {e : PySem.Expr} {pos : Pos} {i : Int} (h : Exp c σ γ e (vI i)) : Exp c σ γ (.UnaryOp .USub e pos) (vI (-i)) := fun s I =>
  wpAny_UnaryOp (wpAny_mono (h s I) (fun v s' ⟨e1, t, q⟩ => by subst q; exact neg_int ⟨e1.trans .toks, _, rfl⟩) fun _ _ x => x)

theorem Lst.new {h : Heap} {vs : List Value} {ps : List Pt} {n : Nat} (q : All2 (Pt.Is h) ps vs) : Lst (h.push { cls := .type "list", data := .seq vs.toArray n }) h.objs.size ps :=
  ⟨vs, ⟨n, Heap.get?_push_size _ rfl⟩, q.mono fun _ _ y => y.keep fun _ _ e => Heap.get?_push_of_some _ e⟩

theorem addL_raw {ps qs : List Pt} {a b : Addr} {s : Shared} {E : Value → Shared → Prop} (x : Lst s.heap a ps) (y : Lst s.heap b qs) (hs : ps.length + qs.length ≤ sizeLine) {Q : Value → Shared → Prop}
    (h : ∀ a' s', Ext s s' → s.heap.get? a' = none → Lst s'.heap a' (ps ++ qs) → Q (.ref a') s') : wpAny c.M c.A (binaryOp .Add (.ref a) (.ref b)) Q E s := by
  obtain ⟨vs, ⟨n, e1⟩, q1⟩ := x
  obtain ⟨ws, ⟨m, e2⟩, q2⟩ := y
  have hv := q1.length
  have hw := q2.length
  refine concat_meets ⟨_, e1, rfl⟩ ⟨_, e2, rfl⟩ noFill_list_add seq_list_add PySem.F.slot_list_add PySem.F.entry_list_add (PySem.F.args_list_add_2 _ _) (list_addW a b vs.toArray ws.toArray n m none none #[] #[] (by simp only [List.size_toArray]; omega)) ⟨e1, e2, ?_⟩
  have e : vs.toArray ++ ws.toArray = (vs ++ ws).toArray := by simp
  rw [e]
  exact h _ _ .push (Heap.get?_none_of_le (Nat.le_refl _)) (Lst.new (q1.append q2))
theorem Exp.addL {l r : PySem.Expr} {pos : Pos} {x y : List Pt} (h1 : Exp c σ γ l (.l x)) (h2 : Exp c σ γ r (.l y)) (hs : x.length + y.length ≤ sizeLine) : Exp c σ γ (.BinOp l .Add r pos) (.l (x ++ y)) :=
  .bin h1 h2 fun s a b I q1 q2 => by
    obtain ⟨a, rfl, q1⟩ := q1; obtain ⟨b, rfl, q2⟩ := q2
    exact addL_raw q1 q2 hs fun a' s' e1 _ z => ⟨e1, _, rfl, z⟩

theorem rep_one (v : Value) : ∀ (n : Nat) (acc : Array Value), List.foldl (fun x1 x2 => x1 ++ x2) acc (List.replicate n #[v]) = (acc.toList ++ List.replicate n v).toArray
  | 0, acc => by simp
  | n + 1, acc => by
    rw [List.replicate_succ, List.foldl_cons, rep_one v n]
    simp [List.replicate_succ]
/-- [x] * n -/
theorem mulL_raw {p : Pt} {a : Addr} {s : Shared} {E : Value → Shared → Prop} {i : Int} {u : Tok} (x : Lst s.heap a [p]) (hs : i.toNat ≤ 2 ^ 20) {Q : Value → Shared → Prop} (hlo : -(2 ^ 63 : Int) ≤ i) 
    (h : ∀ a' s', Ext s s' → s.heap.get? a' = none → Lst s'.heap a' (List.replicate i.toNat p) → Q (.ref a') s') : wpAny c.M c.A (binaryOp .Mult (.ref a) (.int i u)) Q E s := by
  obtain ⟨vs, ⟨n, e1⟩, q1⟩ := x
  have hl := q1.length
  obtain ⟨v, rfl⟩ : ∃ v, vs = [v] := by
    match vs, hl with
    | [v], _ => exact ⟨v, rfl⟩
  have hhi : i < 2 ^ 63 := by omega
  refine wpAny_binaryOp_repeat_ref (T := "list") (U := "int") (by decide) ⟨_, e1, rfl⟩ (fun s' => typeIs_int s' i u) noFill_list_mul F.fills_int_mul F.slot_int_rmul repeat_list F.slot_int_index.lookup
    (call_meets F.slot_int_rmul (typeIs_int s i u) F.entry_int_rmul (F.args_int_rmul_2 _ _) (int___rmul___int_list i u a [v].toArray n)
      ⟨e1, rfl, ⟨_, e1, rfl⟩, call_meets F.slot_list_mul ⟨_, e1, rfl⟩ F.entry_list_mul (F.args_list_mul_2 _ _)
        (AutoListH.list___mul___list_int_3 a [v].toArray n i u (by simp [Builtin.List.listFitsIndex]; omega) (by simp; omega) (by simp [Builtin.List.listTooLong, sizeLine]; omega))
        ⟨e1, ?_⟩⟩)
  have e : List.foldl (fun x1 x2 => x1 ++ x2) #[] (List.replicate (if [v].toArray.isEmpty = true then 0 else i.toNat) [v].toArray) = (List.replicate i.toNat v).toArray := by
    have := rep_one v i.toNat #[]
    simpa using this
  rw [e]
  exact h _ _ .push (Heap.get?_none_of_le (Nat.le_refl _)) (Lst.new (All2.rep q1.1 _))
theorem Exp.mulL {l r : PySem.Expr} {pos : Pos} {p : Pt} {i : Int} (h1 : Exp c σ γ l (.l [p])) (h2 : Exp c σ γ r (vI i)) (hs : i.toNat ≤ 2 ^ 20) (hlo : -(2 ^ 63 : Int) ≤ i) : Exp c σ γ (.BinOp l .Mult r pos) (.l (List.replicate i.toNat p)) :=
  .bin h1 h2 fun s a b I q1 q2 => by
    obtain ⟨a, rfl, q1⟩ := q1; obtain ⟨t, rfl⟩ := q2
    exact mulL_raw q1 hs hlo fun a' s' e1 _ z => ⟨e1, _, rfl, z⟩

/-! comparisons -/
theorem Cmp.lt {i j : Int} : Cmp c σ γ .Lt (vI i) (vI j) (decide (i < j)) := fun s a b I ⟨t, q1⟩ ⟨u, q2⟩ => by subst q1 q2; exact lt_int ⟨.rfl', rfl⟩
theorem Cmp.gt {i j : Int} : Cmp c σ γ .Gt (vI i) (vI j) (decide (j < i)) := fun s a b I ⟨t, q1⟩ ⟨u, q2⟩ => by subst q1 q2; exact gt_int ⟨.rfl', rfl⟩
theorem Cmp.ge {i j : Int} : Cmp c σ γ .GtE (vI i) (vI j) (decide (j ≤ i)) := fun s a b I ⟨t, q1⟩ ⟨u, q2⟩ => by subst q1 q2; exact ge_int ⟨.rfl', rfl⟩
theorem Cmp.eq {i j : Int} : Cmp c σ γ .Eq (vI i) (vI j) (i == j) := fun s a b I ⟨t, q1⟩ ⟨u, q2⟩ => by subst q1 q2; exact eq_int ⟨.rfl', rfl⟩
theorem Cmp.ne {i j : Int} : Cmp c σ γ .NotEq (vI i) (vI j) (i != j) := fun s a b I ⟨t, q1⟩ ⟨u, q2⟩ => by subst q1 q2; exact ne_int ⟨.rfl', rfl⟩
theorem Cmp.neS {x y : Str} : Cmp c σ γ .NotEq (vS x) (vS y) (x != y) := fun s a b I ⟨t, q1⟩ ⟨u, q2⟩ => by subst q1 q2; exact ne_str ⟨.rfl', rfl⟩
theorem Cmp.eqB {x y : Bool} : Cmp c σ γ .Eq (vB x) (vB y) (x == y) := fun s a b I q1 q2 => by cases q1; cases q2; exact eq_bool ⟨.rfl', rfl⟩
theorem Cmp.inS {x y : Str} : Cmp c σ γ .In (vS y) (vS x) (!(Builtin.Str.occurrences x y 0 x.length 1).isEmpty) := fun s a b I ⟨t, q1⟩ ⟨u, q2⟩ => by subst q1 q2; exact in_str ⟨.rfl', rfl⟩
end
end Mine

namespace Mine
section
variable {c : Cx} {σ : List (Str × Ct)} {γ : Gh}

/-! subscripts -/
theorem sub_raw {M : Model} {A : Around} {env : Env} {value slice : PySem.Expr} {pos : Pos} {Q : Value → Shared → Prop} {E : Value → Shared → Prop} {s : Shared}
    (h : wpAny M A (eval value env) (fun o s₁ => wpAny M A (eval slice env) (fun i s₂ => wpAny M A (subscriptTail value slice o i) Q E s₂) E s₁) E s) :
    wpAny M A (eval (.Subscript value slice pos) env) Q E s := by
  rw [eval_Subscript]
  exact wpAny_bind (wpAny_mono h (fun o s₁ h₁ => wpAny_bind (wpAny_holding (wpAny_mono h₁ (fun i s₂ h₂ => wpAny_bind (wpAny_standAt h₂)) fun _ _ x => x))) fun _ _ x => x)
theorem Exp.subs {value slice : PySem.Expr} {pos : Pos} {x y z : Vl} (h1 : Exp c σ γ value x) (h2 : Exp c σ γ slice y)
    (h : ∀ s o i, Inv c σ γ s → x.Is s.heap o → y.Is s.heap i → wpAny c.M c.A (subscriptTail value slice o i) (fun v s' => Ext s s' ∧ z.Is s'.heap v) no s) : Exp c σ γ (.Subscript value slice pos) z := fun s I =>
  sub_raw (wpAny_mono (h1 s I) (fun a s₁ ⟨e1, q1⟩ => wpAny_mono (h2 s₁ (I.ext e1)) (fun b s₂ ⟨e2, q2⟩ =>
    wpAny_mono (h s₂ a b ((I.ext e1).ext e2) (q1.keep e2.keep) q2) (fun v s' ⟨e3, q3⟩ => ⟨(e1.trans e2).trans e3, q3⟩) fun _ _ x => x) fun _ _ x => x) fun _ _ x => x)

abbrev SubOk (slice : PySem.Expr) : Prop := ∀ o i, subscripted slice false o i = operate [o, i] (getItem o i)
/-- the place that an index means -/
def ix (k : Int) (n : Nat) : Nat := if k < 0 then (k + n).toNat else k.toNat

theorem Exp.item {value slice : PySem.Expr} {pos : Pos} {ps : List Pt} {p : Pt} {k : Int} (h1 : Exp c σ γ value (.l ps)) (h2 : Exp c σ γ slice (vI k))
    (hp : ps[ix k ps.length]? = some p) (hk : -(ps.length : Int) ≤ k) (hk2 : -(2 ^ 62) ≤ k ∧ k < 2 ^ 62) (hs : SubOk slice := by intro _ _; with_unfolding_all rfl) : Exp c σ γ (.Subscript value slice pos) (.p p) :=
  .subs h1 h2 fun s o i I q1 q2 => by
    obtain ⟨a, rfl, vs, ⟨n, e⟩, q⟩ := q1
    obtain ⟨t, rfl⟩ := q2
    have hl := q.length
    obtain ⟨v, hv, hq⟩ := q.get hp
    have L : s.heap.IsList a vs.toArray := ⟨_, e, rfl, n, rfl⟩
    unfold ix at hv
    by_cases h0 : k < 0
    · rw [if_pos h0] at hv
      exact tail_any L.typeIs slot_list_getitem.lookup (wpAny_getItem_list_neg L h0 (by simp only [List.size_toArray]; omega) (by omega) (by simp only [List.size_toArray, List.getElem?_toArray, ← hl]; exact hv) ⟨.rfl', hq⟩) (hs _ _)
    · rw [if_neg h0] at hv
      exact tail_any L.typeIs slot_list_getitem.lookup (wpAny_getItem_list L (by omega) (by omega) (by simpa using hv) ⟨.rfl', hq⟩) (hs _ _)
theorem Exp.itemT {value slice : PySem.Expr} {pos : Pos} {l : List At} {x : At} {k : Int} (h1 : Exp c σ γ value (.p (.t l))) (h2 : Exp c σ γ slice (vI k))
    (hp : l[k.toNat]? = some x) (h0 : 0 ≤ k) (hk : k < 2 ^ 62) (hs : SubOk slice := by intro _ _; with_unfolding_all rfl) : Exp c σ γ (.Subscript value slice pos) (.p (.a x)) :=
  .subs h1 h2 fun s o i I q1 q2 => by
    obtain ⟨a, vs, rfl, ht, q⟩ := q1
    obtain ⟨t, rfl⟩ := q2
    have hl := q.length
    obtain ⟨v, hv, hq⟩ := q.get hp
    have hlt : k.toNat < vs.length := (List.getElem?_eq_some_iff.mp hv).1
    exact tail_any ht.typeIs slot_tuple_getitem.lookup (getItem_tuple ht (by omega) (by omega) (j := k.toNat) (by simp [seqIndex?, List.size_toArray]; omega) (by simpa using hv) ⟨.rfl', hq⟩) (hs _ _)
theorem Exp.itemS {value slice : PySem.Expr} {pos : Pos} {x : Str} {k : Int} {d : Nat} (h1 : Exp c σ γ value (vS x)) (h2 : Exp c σ γ slice (vI k))
    (hp : x.cps[k.toNat]? = some d) (h0 : 0 ≤ k) (hk : k < 2 ^ 62) (hs : SubOk slice := by intro _ _; with_unfolding_all rfl) : Exp c σ γ (.Subscript value slice pos) (vS ⟨#[d]⟩) :=
  .subs h1 h2 fun s o i I q1 q2 => by
    obtain ⟨t, rfl⟩ := q1
    obtain ⟨u, rfl⟩ := q2
    have hlt : k.toNat < x.cps.size := (Array.getElem?_eq_some_iff.mp hp).1
    have hj : seqIndex? k x.length = some k.toNat := by
      have : x.length = x.cps.size := rfl
      simp [seqIndex?, this]; omega
    exact tail_any (typeIs_str s x t) slot_str_getitem.lookup (getItem_str (by simp; omega) (by rw [hj]; exact hp) ⟨.toks, _, rfl⟩) (hs _ _)

/-- a part of a slice -/
def Prt (c : Cx) (σ : List (Str × Ct)) (γ : Gh) (e : Option PySem.Expr) (i : Option Int) : Prop :=
  ∀ s, Inv c σ γ s → wpAny c.M c.A (evalPart e c.env) (fun v s' => Ext s s' ∧ IsPart v i) no s
theorem Prt.none : Prt c σ γ none none := fun s I => wpAny_evalPart_none ⟨.rfl', .none⟩
theorem Prt.some {e : PySem.Expr} {i : Int} (h : Exp c σ γ e (vI i)) : Prt c σ γ (some e) (some i) := fun s I =>
  wpAny_evalPart_some (wpAny_mono (h s I) (fun v s' ⟨e1, t, q⟩ => by subst q; exact ⟨e1, .int ..⟩) fun _ _ x => x)

/-- x[lo:hi:st] of a list -/
theorem sliceL_raw {value : PySem.Expr} {lo hi st : Option PySem.Expr} {p pos : Pos} {ps qs : List Pt} {i j k : Option Int} (h1 : Exp c σ γ value (.l ps)) (h2 : Prt c σ γ lo i) (h3 : Prt c σ γ hi j) (h4 : Prt c σ γ st k)
    (hk : k ≠ Option.some 0) (hsz : ps.length ≤ sizeLine)
    (hq : ∀ (h : Heap) (vs : List Value), All2 (Pt.Is h) ps vs → ∃ ws : List Value, slicePick vs.toArray i j k = ws.toArray ∧ All2 (Pt.Is h) qs ws)
    (hs : ∀ o i, ∃ ops, subscripted (.Slice lo hi st p) false o i = operate ops (getItem o i)) {s : Shared} (I : Inv c σ γ s) :
    wpAny c.M c.A (eval (.Subscript value (.Slice lo hi st p) pos) c.env) (fun v s' => Ext s s' ∧ ∃ a, v = .ref a ∧ s.heap.get? a = Option.none ∧ Lst s'.heap a qs) no s := by
  refine sub_raw (wpAny_mono (h1 s I) (fun o s₁ ⟨e1, q1⟩ => wpAny_Slice (wpAny_mono (h2 s₁ (I.ext e1)) (fun vl s₂ ⟨e2, q2⟩ => wpAny_mono (h3 s₂ ((I.ext e1).ext e2)) (fun vu s₃ ⟨e3, q3⟩ =>
    wpAny_mono (h4 s₃ (((I.ext e1).ext e2).ext e3)) (fun vst s₄ ⟨e4, q4⟩ => ?_) fun _ _ x => x) fun _ _ x => x) fun _ _ x => x)) fun _ _ x => x)
  have q1 := ((q1.keep e2.keep).keep e3.keep).keep e4.keep
  obtain ⟨a, rfl, vs, ⟨n, e⟩, q⟩ := q1
  have L : s₄.heap.IsList a vs.toArray := ⟨_, e, rfl, n, rfl⟩
  obtain ⟨ops, ho⟩ := hs (.ref a) (.ref s₄.heap.objs.size)
  have eS : Ext s s₄ := ((e1.trans e2).trans e3).trans e4
  refine tail_any (L.push _).typeIs slot_list_getitem.lookup (wpAny_getItem_list_slice (L.push _) (Heap.IsSliceOf.new ..) q2 q3 q4 hk ?_ (by simp only [List.size_toArray, ← q.length]; exact hsz)) ho
  obtain ⟨ws, hw, hq'⟩ := hq _ vs (q.mono fun _ _ y => y.keep (fun _ _ e => Heap.get?_push_of_some { cls := .type "slice", data := .fields #[vl, vu, vst] } e))
  rw [hw]
  refine ⟨(eS.trans .push).trans (.push (s := { s₄ with heap := _ })), _, rfl, ?_, Lst.new hq'⟩
  cases hg : s.heap.get? (s₄.heap.push { cls := .type "slice", data := .fields #[vl, vu, vst] }).objs.size with
  | none => rfl
  | some o =>
    have := Heap.lt_size (eS.keep _ _ hg)
    rw [Heap.size_push] at this; exact absurd (Nat.lt_of_succ_lt this) (Nat.lt_irrefl _)
theorem Exp.fromL {value e : PySem.Expr} {p pos : Pos} {ps : List Pt} {n : Nat} (h1 : Exp c σ γ value (.l ps)) (h2 : Exp c σ γ e (vI n)) (hsz : ps.length ≤ sizeLine) :
    Exp c σ γ (.Subscript value (.Slice (some e) none none p) pos) (.l (ps.drop n)) := fun s I =>
  wpAny_mono (sliceL_raw h1 (Prt.some h2) Prt.none Prt.none (by simp) hsz (qs := ps.drop n) (fun h vs q => ⟨vs.drop n, slicePick_from' _ _, q.drop n⟩) (fun _ _ => ⟨_, by with_unfolding_all rfl⟩) I) (fun v s' ⟨e1, a, q1, _, q2⟩ => ⟨e1, a, q1, q2⟩) fun _ _ x => x
theorem Exp.uptoL {value e : PySem.Expr} {p pos : Pos} {ps : List Pt} {n : Nat} (h1 : Exp c σ γ value (.l ps)) (h2 : Exp c σ γ e (vI n)) (hsz : ps.length ≤ sizeLine) :
    Exp c σ γ (.Subscript value (.Slice none (some e) none p) pos) (.l (ps.take n)) := fun s I =>
  wpAny_mono (sliceL_raw h1 Prt.none (Prt.some h2) Prt.none (by simp) hsz (qs := ps.take n) (fun h vs q => ⟨vs.take n, slicePick_upto' _ _, q.take n⟩) (fun _ _ => ⟨_, by with_unfolding_all rfl⟩) I) (fun v s' ⟨e1, a, q1, _, q2⟩ => ⟨e1, a, q1, q2⟩) fun _ _ x => x

/-- x[i:j] of a text -/
theorem Exp.sliceS {value lo hi : PySem.Expr} {p pos : Pos} {x : Str} {i j : Int} (h1 : Exp c σ γ value (vS x)) (h2 : Exp c σ γ lo (vI i)) (h3 : Exp c σ γ hi (vI j)) (hsz : x.length ≤ sizeLine)
    (ht : ∀ t r, letTemporaryGo value (.str x t) r = pure () := by intro _ _; with_unfolding_all rfl) :
    Exp c σ γ (.Subscript value (.Slice (some lo) (some hi) none p) pos) (vS (Txt.slice x (some i) (some j))) := fun s I => by
  refine sub_raw (wpAny_mono (h1 s I) (fun o s₁ ⟨e1, t, q1⟩ => wpAny_Slice (wpAny_evalPart_some (wpAny_mono (h2 s₁ (I.ext e1)) (fun vl s₂ ⟨e2, u, q2⟩ => wpAny_evalPart_some (wpAny_mono (h3 s₂ ((I.ext e1).ext e2)) (fun vu s₃ ⟨e3, w, q3⟩ => wpAny_evalPart_none ?_) fun _ _ x => x)) fun _ _ x => x))) fun _ _ x => x)
  subst q1 q2 q3
  refine tail_of_ItemOn (SBH.sliceItem_ss (P := KeepH s₃.heap) (fun h ob k b o e => Heap.get?_push_of_some _ (k b o e)) (fun _ _ e => e) (fun h' t' k kp => ⟨((e1.trans e2).trans e3).trans (.heapToks kp), _, rfl⟩) hsz) (by with_unfolding_all rfl) (ht t)

/-! displays -/
def ExpAll (c : Cx) (σ : List (Str × Ct)) (γ : Gh) (es : List PySem.Expr) (xs : List Vl) : Prop := All2 (fun e x => Exp c σ γ e x ∧ isStarred e = false) es xs
theorem ExpAll.nil : ExpAll c σ γ [] [] := trivial
theorem ExpAll.cons {e : PySem.Expr} {es : List PySem.Expr} {x : Vl} {xs : List Vl} (h : Exp c σ γ e x) (t : ExpAll c σ γ es xs) (hs : isStarred e = false := by rfl) : ExpAll c σ γ (e :: es) (x :: xs) := ⟨⟨h, hs⟩, t⟩
theorem starEach_cons {e : PySem.Expr} {es : List PySem.Expr} {env : Env} (h : isStarred e = false) : starEach (e :: es) env = (false, eval e env) :: starEach es env := by
  cases e <;> first | rfl | cases h
theorem backTo_cons {pos : Pos} {t : Sem Value} {r : List (Bool × Sem Value)} : backTo pos ((false, t) :: r) = (false, t) :: backTo pos r := rfl
theorem ExpAll.spl {pos : Pos} : ∀ {es : List PySem.Expr} {xs : List Vl}, ExpAll c σ γ es xs → ∀ s, Inv c σ γ s →
    wpAny c.M c.A (spliced (backTo pos (starEach es c.env))) (fun vs s' => Ext s s' ∧ All2 (fun x v => x.Is s'.heap v) xs vs) no s
  | [], [], _, s, I => spliced_nil ⟨.rfl', trivial⟩
  | e :: es, x :: xs, h, s, I => by
    rw [starEach_cons h.1.2, backTo_cons]
    refine spliced_cons (wpAny_mono (h.1.1 s I) (fun v s₁ ⟨e1, q1⟩ => wpAny_mono (ExpAll.spl h.2 s₁ (I.ext e1)) (fun vs s₂ ⟨e2, q2⟩ => ⟨e1.trans e2, q1.keep e2.keep, q2⟩) fun _ _ x => x) fun _ _ x => x)
  | [], _ :: _, h, _, _ => h.elim
  | _ :: _, [], h, _, _ => h.elim
theorem all2_map {α β γ' : Type} {R : β → γ' → Prop} (f : α → β) : ∀ {l : List α} {r : List γ'}, All2 R (l.map f) r → All2 (fun a b => R (f a) b) l r
  | [], [], _ => trivial
  | _ :: _, _ :: _, h => ⟨h.1, all2_map f h.2⟩
  | [], _ :: _, h => h.elim
  | _ :: _, [], h => h.elim
theorem Exp.tup {es : List PySem.Expr} {k : Nat} {pos : Pos} {xs : List At} (h : ExpAll c σ γ es (xs.map fun x => .p (.a x))) (hsz : es.length ≤ 100 := by decide) : Exp c σ γ (.Tuple es k pos) (.p (.t xs)) := fun s I =>
  wpAny_Tuple_spliced (wpAny_mono (h.spl s I) (fun vs s' ⟨e1, q⟩ => by
    have hl := q.length
    have hl2 : es.length = xs.length := by simpa using All2.length h
    refine ⟨by simp at hl; unfold sizeLine; omega, e1.trans .push, _, vs, rfl, ⟨_, Heap.get?_push_size _ rfl, rfl, 0, rfl⟩, ?_⟩
    exact all2_map (R := fun (x : Vl) v => x.Is s'.heap v) (fun x => .p (.a x)) q) fun _ _ x => x)
/-- a list display: its fresh list -/
theorem list_raw {es : List PySem.Expr} {pos : Pos} {ps : List Pt} (h : ExpAll c σ γ es (ps.map .p)) (hsz : es.length ≤ 100) {s : Shared} (I : Inv c σ γ s) :
    wpAny c.M c.A (eval (.List es pos) c.env) (fun v s' => Ext s s' ∧ ∃ a, v = .ref a ∧ s.heap.get? a = none ∧ Lst s'.heap a ps) no s :=
  wpAny_List_spliced (wpAny_mono (h.spl s I) (fun vs s' ⟨e1, q⟩ => by
    have hl := q.length
    have hl2 : es.length = ps.length := by simpa using All2.length h
    refine ⟨by simp at hl; unfold sizeLine; omega, e1.trans .push, _, rfl, ?_, Lst.new (all2_map (R := fun (x : Vl) v => x.Is s'.heap v) .p q)⟩
    cases hg : s.heap.get? s'.heap.objs.size with
    | none => rfl
    | some o => exact absurd (Heap.lt_size (e1.keep _ _ hg)) (Nat.lt_irrefl _)) fun _ _ x => x)
theorem Exp.list {es : List PySem.Expr} {pos : Pos} {ps : List Pt} (h : ExpAll c σ γ es (ps.map .p)) (hsz : es.length ≤ 100 := by decide) : Exp c σ γ (.List es pos) (.l ps) := fun s I =>
  wpAny_mono (list_raw h hsz I) (fun v s' ⟨e1, a, q1, _, q2⟩ => ⟨e1, a, q1, q2⟩) fun _ _ x => x
end
end Mine

namespace Mine
section
variable {c : Cx} {σ σ' : List (Str × Ct)} {γ : Gh} {s : Shared}

/-! ## changes of the state -/
theorem Inv.weak (I : Inv c σ γ s) (h : ∀ x ct, σ'.lookup x = some ct → σ.lookup x = some ct) : Inv c σ' γ s :=
  ⟨I.amb, I.keep, I.rest, ⟨I.frm.kind, I.frm.glob, I.frm.blt, I.frm.newL, let ⟨m, hn, hm⟩ := I.frm.loc; ⟨m, hn, fun x ct e => hm x ct (h x ct e)⟩, I.frm.cel, I.frm.inj, fun x ct e => I.frm.cv x ct (h x ct e)⟩, I.gh, I.kt⟩
theorem lookup_mem {σ : List (Str × Ct)} {x : Str} {ct : Ct} (h : σ.lookup x = some ct) : (x, ct) ∈ σ := by
  induction σ with
  | nil => cases h
  | cons p r ih =>
    obtain ⟨y, d⟩ := p
    rw [List.lookup_cons] at h
    cases hy : x == y with
    | true => rw [hy] at h; cases h; rw [beq_iff_eq.mp hy]; exact .head _
    | false => rw [hy] at h; exact .tail _ (ih h)
theorem Inv.sub (I : Inv c σ γ s) (h : ∀ p ∈ σ', σ.lookup p.1 = some p.2) : Inv c σ' γ s := I.weak fun x ct e => h (x, ct) (lookup_mem e)
theorem Inv.ghost {γ' : Gh} (I : Inv c σ γ s) (h : ∀ p ∈ γ'.objs, p ∈ γ.objs) (ht : KeepT γ'.tup s.heap) : Inv c σ γ' s := ⟨I.amb, I.keep, I.rest, I.frm, fun p hp => I.gh p (h p hp), ht⟩

/-- one object without names' contents changes -/
theorem Inv.chg' {h' : Heap} {tk : Nat} {a : Addr} {oa : Obj} (I : Inv c σ γ s) (ha : s.heap.get? a = some oa) (hs : ∀ vs n, oa.data ≠ .seq vs n) (hcl : ∀ v, oa.data ≠ .cell v) (hL : a ≠ c.env.locals) (hB : c.B.heap.get? a = none)
    (hγ : ∀ p ∈ γ.objs, p.1 ≠ a) (k : KeepBut a s.heap h') : Inv c σ γ { s with heap := h', toks := tk } := by
  have kc : ∀ (x : Str) ct v, Ct.Is s.heap ct v → Ct.Is h' ct v := fun x ct v y => y.other ha hs k
  have kcell : ∀ b v, s.heap.IsCell b v → h'.IsCell b v := fun b v ⟨o, ho, hc⟩ => ⟨o, k b o (by rintro rfl; rw [ha] at ho; cases ho; exact hcl _ hc) ho, hc⟩
  refine ⟨I.amb, fun b o e => k b o (by rintro rfl; rw [hB] at e; cases e) (I.keep b o e), by rw [I.rest], ⟨I.frm.kind, I.frm.glob, I.frm.blt, I.frm.newL, ?_, fun x b e => let ⟨v, q⟩ := I.frm.cel x b e; ⟨v, kcell _ _ q⟩, I.frm.inj, fun x ct e hk => let ⟨b, v, e1, e2, e3⟩ := I.frm.cv x ct e hk; ⟨b, v, e1, kcell _ _ e2, kc x _ _ e3⟩⟩, fun p hp => ⟨k _ _ (hγ p hp) (I.gh p hp).1, (I.gh p hp).2⟩, I.kt.trans (.but ha (.inr hs) k)⟩
  obtain ⟨m, hn, hm⟩ := I.frm.loc
  refine ⟨m, ?_, fun x ct e hk => let ⟨v, e1, e2⟩ := hm x ct e hk; ⟨v, e1, kc x _ _ e2⟩⟩
  obtain ⟨o, es, ep, ho, hdt, r⟩ := hn
  exact ⟨o, es, ep, k _ o (Ne.symm hL) ho, hdt, r⟩
theorem Inv.chg {h' : Heap} {tk : Nat} {a : Addr} {vs : Array Value} {oa : Obj} (I : Inv c σ γ s) (ha : s.heap.get? a = some oa) (hd : oa.data = .fields vs) (hB : c.B.heap.get? a = none)
    (hγ : ∀ p ∈ γ.objs, p.1 ≠ a) (k : KeepBut a s.heap h') : Inv c σ γ { s with heap := h', toks := tk } :=
  I.chg' ha (fun _ _ e => by rw [hd] at e; cases e) (fun _ e => by rw [hd] at e; cases e) (by
    rintro rfl
    obtain ⟨m, ⟨o, es, ep, ho, hdt, _⟩, _⟩ := I.frm.loc
    rw [ha] at ho; cases ho; rw [hd] at hdt; cases hdt) hB hγ k

theorem lookup_cons_ne {x y : Str} {ct : Ct} (h : y ≠ x) : ((x, ct) :: σ).lookup y = σ.lookup y := by
  rw [List.lookup_cons, beq_eq_false_iff_ne.mpr h]
theorem lookup_cons_eq {x : Str} {ct : Ct} : ((x, ct) :: σ).lookup x = some ct := by rw [List.lookup_cons, beq_self_eq_true]

theorem Inv.storeLoc' {x : Str} {ct : Ct} {v : Value} {Q : Unit → Shared → Prop} {E : Value → Shared → Prop} (I : Inv c σ γ s) (hv : ct.Is s.heap v) (hk : c.env.kindOf x = some .local)
    (h : ∀ s', Inv c ((x, ct) :: σ) γ s' → KeepBut c.env.locals s.heap s'.heap → Q () s') : wpAny c.M c.A (storeName c.env x v) Q E s := by
  obtain ⟨m, hn, hm⟩ := I.frm.loc
  refine wpAny_storeName_local hk hn (fun h' hn' hs => ?_) (by rw [I.frm.kind]; rfl)
  obtain ⟨oL, es, ep, hL, hdL, _, _⟩ := hn
  have k : KeepBut c.env.locals s.heap h' := fun b o hb e => (hs.2 b hb).trans e
  have hs : ∀ vs n, oL.data ≠ .seq vs n := fun _ _ e => by rw [hdL] at e; cases e
  have kc : ∀ ct v, Ct.Is s.heap ct v → Ct.Is h' ct v := fun ct v y => y.other hL hs k
  have kcell : ∀ b v, s.heap.IsCell b v → h'.IsCell b v := fun b v ⟨o, ho, hc⟩ => ⟨o, k b o (by rintro rfl; rw [hL] at ho; cases ho; rw [hdL] at hc; cases hc) ho, hc⟩
  refine h _ ⟨I.amb, fun b o e => k b o (by rintro rfl; rw [I.frm.newL] at e; cases e) (I.keep b o e), by rw [I.rest], ⟨I.frm.kind, I.frm.glob, I.frm.blt, I.frm.newL, ⟨_, hn', fun y ct' e hky => ?_⟩, fun y b e => let ⟨v, q⟩ := I.frm.cel y b e; ⟨v, kcell _ _ q⟩, I.frm.inj, fun y ct' e hky => ?_⟩, fun p hp => ⟨k _ _ ?_ (I.gh p hp).1, (I.gh p hp).2⟩, I.kt.trans (.but hL (.inr hs) k)⟩ k
  · by_cases hy : y = x
    · subst hy
      rw [lookup_cons_eq] at e; cases e
      exact ⟨v, by simp, kc _ _ hv⟩
    · rw [lookup_cons_ne hy] at e
      obtain ⟨v', e1, e2⟩ := hm y ct' e hky
      exact ⟨v', by simp [hy, e1], kc _ _ e2⟩
  · have hy : y ≠ x := by rintro rfl; rw [hk] at hky; rcases hky with q | q <;> cases q
    rw [lookup_cons_ne hy] at e
    obtain ⟨b, v', e1, e2, e3⟩ := I.frm.cv y ct' e hky
    exact ⟨b, v', e1, kcell _ _ e2, kc _ _ e3⟩
  · intro q
    obtain ⟨g1, g2⟩ := I.gh p hp
    rw [q, hL] at g1; cases g1
    rcases g2 with ⟨vs, g⟩ | ⟨vs, n, g⟩ <;> (rw [hdL] at g; cases g)

theorem Inv.storeLoc {x : Str} {ct : Ct} {v : Value} {Q : Unit → Shared → Prop} {E : Value → Shared → Prop} (I : Inv c σ γ s) (hv : ct.Is s.heap v) (hk : c.env.kindOf x = some .local)
    (h : ∀ s', Inv c ((x, ct) :: σ) γ s' → Q () s') : wpAny c.M c.A (storeName c.env x v) Q E s := I.storeLoc' hv hk fun s' I' _ => h s' I'

theorem Inv.storeCell {x : Str} {ct : Ct} {v : Value} {Q : Unit → Shared → Prop} {E : Value → Shared → Prop} {b : Addr} (I : Inv c σ γ s) (hv : ct.Is s.heap v) (hk : c.env.kindOf x = some .cell)
    (hb : c.env.cells.lookup x = some b) (hB : c.B.heap.get? b = none) (h : ∀ s', Inv c ((x, ct) :: σ) γ s' → Q () s') : wpAny c.M c.A (storeName c.env x v) Q E s := by
  obtain ⟨v0, hc0⟩ := I.frm.cel x b hb
  refine wpAny_storeName_cell I.frm.kind hk hb hc0 (fun h' hc' hs => ?_)
  obtain ⟨oc, hoc, hdc⟩ := hc0
  have k : KeepBut b s.heap h' := fun a o ha e => (hs.2 a ha).trans e
  have hs : ∀ vs n, oc.data ≠ .seq vs n := fun _ _ e => by rw [hdc] at e; cases e
  have kc : ∀ ct v, Ct.Is s.heap ct v → Ct.Is h' ct v := fun ct v y => y.other hoc hs k
  refine h _ ⟨I.amb, fun a o e => k a o (by rintro rfl; rw [hB] at e; cases e) (I.keep a o e), by rw [I.rest], ⟨I.frm.kind, I.frm.glob, I.frm.blt, I.frm.newL, ?_, fun y a e => ?_, I.frm.inj, fun y ct' e hky => ?_⟩, fun p hp => ⟨k _ _ ?_ (I.gh p hp).1, (I.gh p hp).2⟩, I.kt.trans (.but hoc (.inr hs) k)⟩
  · obtain ⟨m, hn, hm⟩ := I.frm.loc
    refine ⟨m, ?_, fun y ct' e hky => ?_⟩
    · obtain ⟨o, es, ep, ho, hdt, r⟩ := hn
      exact ⟨o, es, ep, k _ o (by intro q; rw [q, hoc] at ho; cases ho; rw [hdc] at hdt; cases hdt) ho, hdt, r⟩
    · have hy : y ≠ x := by rintro rfl; rw [hk] at hky; cases hky
      rw [lookup_cons_ne hy] at e
      obtain ⟨v', e1, e2⟩ := hm y ct' e hky
      exact ⟨v', e1, kc _ _ e2⟩
  · by_cases ha : a = b
    · subst ha; exact ⟨_, hc'⟩
    · obtain ⟨v', o, ho, hd⟩ := I.frm.cel y a e
      exact ⟨v', o, k a o ha ho, hd⟩
  · by_cases hy : y = x
    · subst hy
      rw [lookup_cons_eq] at e; cases e
      exact ⟨b, v, hb, hc', kc _ _ hv⟩
    · rw [lookup_cons_ne hy] at e
      obtain ⟨a, v', e1, ⟨o, ho, hd⟩, e3⟩ := I.frm.cv y ct' e hky
      refine ⟨a, v', e1, ⟨o, k a o ?_ ho, hd⟩, kc _ _ e3⟩
      rintro rfl
      exact hy (I.frm.inj _ _ _ e1 hb)
  · intro q
    obtain ⟨g1, g2⟩ := I.gh p hp
    rw [q, hoc] at g1; cases g1
    rcases g2 with ⟨vs, g⟩ | ⟨vs, n, g⟩ <;> (rw [hdc] at g; cases g)

/-- x may be stored: a local name, or a cell of the frame's own -/
def Sto (c : Cx) (x : Str) : Prop := c.env.kindOf x = some .local ∨ (c.env.kindOf x = some .cell ∧ ∃ b, c.env.cells.lookup x = some b ∧ c.B.heap.get? b = none)
theorem Inv.store {x : Str} {ct : Ct} {v : Value} {Q : Unit → Shared → Prop} {E : Value → Shared → Prop} (I : Inv c σ γ s) (hv : ct.Is s.heap v) (hk : Sto c x)
    (h : ∀ s', Inv c ((x, ct) :: σ) γ s' → Q () s') : wpAny c.M c.A (storeName c.env x v) Q E s := by
  rcases hk with hk | ⟨hk, b, hb, hB⟩
  · exact I.storeLoc hv hk h
  · exact I.storeCell hv hk hb hB h

/-! a list changes -/
def setL (a : Addr) (ps : List Pt) : Ct → Ct
  | .l b qs => if b = a then .l a ps else .l b qs
  | .p q => .p q
  | .r b => .r b
def updL (a : Addr) (ps : List Pt) (σ : List (Str × Ct)) : List (Str × Ct) := σ.map fun p => (p.1, setL a ps p.2)
theorem lookup_updL {a : Addr} {ps : List Pt} {x : Str} : ∀ {σ : List (Str × Ct)}, (updL a ps σ).lookup x = (σ.lookup x).map (setL a ps)
  | [] => rfl
  | (y, d) :: r => by
    show List.lookup x ((y, setL a ps d) :: updL a ps r) = _
    rw [List.lookup_cons, List.lookup_cons]
    cases x == y with
    | true => rfl
    | false => exact lookup_updL
theorem Inv.lst {h' : Heap} {tk : Nat} {a : Addr} {ps qs : List Pt} (I : Inv c σ γ s) (ha : Lst s.heap a ps) (hB : c.B.heap.get? a = none) (hγ : ∀ p ∈ γ.objs, p.1 ≠ a)
    (k : KeepBut a s.heap h') (hn : Lst h' a qs) : Inv c (updL a qs σ) γ { s with heap := h', toks := tk } := by
  obtain ⟨vs, ⟨n, e⟩, _⟩ := ha
  have nt : NoTup ({ cls := .type "list", data := .seq vs.toArray n } : Obj) := .inl (by simp)
  have kc : ∀ ct v, Ct.Is s.heap ct v → Ct.Is h' (setL a qs ct) v := fun ct v y => by
    cases ct with
    | p q => exact Pt.Is.but (p := q) y e nt k
    | r b => exact y
    | l b rs =>
      show Ct.Is h' (if b = a then .l a qs else .l b rs) v
      by_cases hb : b = a
      · rw [if_pos hb]; exact ⟨hb ▸ y.1, hn⟩
      · rw [if_neg hb]; exact ⟨y.1, y.2.but e nt k hb⟩
  have kcell : ∀ b v, s.heap.IsCell b v → h'.IsCell b v := fun b v ⟨o, ho, hc⟩ => ⟨o, k b o (by rintro rfl; rw [e] at ho; cases ho; cases hc) ho, hc⟩
  refine ⟨I.amb, fun b o e' => k b o (by rintro rfl; rw [hB] at e'; cases e') (I.keep b o e'), by rw [I.rest], ⟨I.frm.kind, I.frm.glob, I.frm.blt, I.frm.newL, ?_, fun x b e' => let ⟨v, q⟩ := I.frm.cel x b e'; ⟨v, kcell _ _ q⟩, I.frm.inj, fun x ct e' hk => ?_⟩, fun p hp => ⟨k _ _ (hγ p hp) (I.gh p hp).1, (I.gh p hp).2⟩, I.kt.trans (.but e nt k)⟩
  · obtain ⟨m, hn, hm⟩ := I.frm.loc
    refine ⟨m, ?_, fun x ct e' hk => ?_⟩
    · obtain ⟨o, es, ep, ho, hdt, r⟩ := hn
      exact ⟨o, es, ep, k _ o (by intro q; rw [q, e] at ho; cases ho; cases hdt) ho, hdt, r⟩
    · rw [lookup_updL] at e'
      cases hl : σ.lookup x with
      | none => rw [hl] at e'; cases e'
      | some d =>
        rw [hl] at e'; cases e'
        obtain ⟨v, e1, e2⟩ := hm x d hl hk
        exact ⟨v, e1, kc _ _ e2⟩
  · rw [lookup_updL] at e'
    cases hl : σ.lookup x with
    | none => rw [hl] at e'; cases e'
    | some d =>
      rw [hl] at e'; cases e'
      obtain ⟨b, v, e1, e2, e3⟩ := I.frm.cv x d hl hk
      exact ⟨b, v, e1, kcell _ _ e2, kc _ _ e3⟩

/-! ## statements -/
abbrev W (c : Cx) (body : List Stmt) (Q : Flow → Shared → Prop) (E : Value → Shared → Prop) (s : Shared) : Prop := wpAny c.M c.A (execs body c.env) Q E s
variable {rest : List Stmt} {Q : Flow → Shared → Prop} {E : Value → Shared → Prop}

/-- a fresh list -/
def ExpF (c : Cx) (σ : List (Str × Ct)) (γ : Gh) (e : PySem.Expr) (ps : List Pt) : Prop :=
  ∀ s, Inv c σ γ s → wpAny c.M c.A (eval e c.env) (fun v s' => Ext s s' ∧ ∃ a, v = .ref a ∧ s.heap.get? a = none ∧ Lst s'.heap a ps) no s
theorem ExpF.exp {e : PySem.Expr} {ps : List Pt} (h : ExpF c σ γ e ps) : Exp c σ γ e (.l ps) := fun s I => wpAny_mono (h s I) (fun v s' ⟨e1, a, q1, _, q2⟩ => ⟨e1, a, q1, q2⟩) fun _ _ x => x
theorem ExpF.list {es : List PySem.Expr} {pos : Pos} {ps : List Pt} (h : ExpAll c σ γ es (ps.map .p)) (hsz : es.length ≤ 100 := by decide) : ExpF c σ γ (.List es pos) ps := fun s I => list_raw h hsz I

theorem W.assign {x : Str} {px pos : Pos} {e : PySem.Expr} {p : Pt} (I : Inv c σ γ s) (h : Exp c σ γ e (.p p)) (hx : Sto c x) (k : ∀ s', Inv c ((x, .p p) :: σ) γ s' → W c rest Q E s')
    (hs : swapsWith e (some (.Name x px)) pos.line c.env = pure false := by rfl) : W c (.Assign [.Name x px] e pos :: rest) Q E s :=
  wpAny_execs_cons (wpAny_Assign_Name (wpAny_mono (h s I) (fun v s' ⟨e1, q⟩ => (I.ext e1).store (ct := .p p) q hx fun s'' I' => k s'' I') fun _ _ x => x.elim) hs)
theorem W.assignF {x : Str} {px pos : Pos} {e : PySem.Expr} {ps : List Pt} (I : Inv c σ γ s) (h : ExpF c σ γ e ps) (hx : Sto c x) (k : ∀ a s', s.heap.get? a = none → Inv c ((x, .l a ps) :: σ) γ s' → W c rest Q E s')
    (hs : swapsWith e (some (.Name x px)) pos.line c.env = pure false := by rfl) : W c (.Assign [.Name x px] e pos :: rest) Q E s :=
  wpAny_execs_cons (wpAny_Assign_Name (wpAny_mono (h s I) (fun v s' ⟨e1, a, q1, q2, q3⟩ => (I.ext e1).store (ct := .l a ps) ⟨q1, q3⟩ hx fun s'' I' => k a s'' q2 I') fun _ _ x => x.elim) hs)
theorem W.ret {e : PySem.Expr} {pos : Pos} {x : Vl} (I : Inv c σ γ s) (h : Exp c σ γ e x) (k : ∀ v s', Ext s s' → x.Is s'.heap v → Q (.ret v) s') : W c (.Return (some e) pos :: rest) Q E s :=
  wpAny_execs_cons (wpAny_Return_some (wpAny_mono (h s I) (fun v s' ⟨e1, q⟩ => k v s' e1 q) fun _ _ x => x.elim))
theorem W.retF {e : PySem.Expr} {pos : Pos} {ps : List Pt} (I : Inv c σ γ s) (h : ExpF c σ γ e ps) (k : ∀ a s', Ext s s' → s.heap.get? a = none → Lst s'.heap a ps → Q (.ret (.ref a)) s') : W c (.Return (some e) pos :: rest) Q E s :=
  wpAny_execs_cons (wpAny_Return_some (wpAny_mono (h s I) (fun v s' ⟨e1, a, q1, q2, q3⟩ => by subst q1; exact k a s' e1 q2 q3) fun _ _ x => x.elim))
theorem W.nil (k : Q .next s) : W c [] Q E s := wpAny_execs_nil k
theorem W.ite {test : PySem.Expr} {body orelse : List Stmt} {pos : Pos} {b : Bool} (I : Inv c σ γ s) (h : Tst c σ γ test b)
    (k : ∀ s', Inv c σ γ s' → W c (if b then body else orelse) (fun f s'' => match f with | .next => W c rest Q E s'' | f => Q f s'') E s') : W c (.If test body orelse pos :: rest) Q E s := by
  refine wpAny_execs_cons (wpAny_If (wpAny_mono (h s I) (fun r s' ⟨e1, q⟩ => ?_) fun _ _ x => x.elim))
  subst q
  cases r
  · exact k s' (I.ext e1)
  · exact k s' (I.ext e1)
end
end Mine

namespace Mine
section
variable {c : Cx} {σ σ' : List (Str × Ct)} {γ : Gh} {s : Shared}

/-- an iterator that hands out ps -/
structure SrcAt (c : Cx) (s s₂ : Shared) (it : Value) (ps : List Pt) (R : Addr → Prop) (I : Addr) (fr : List Addr) (P : Nat → Value → Prop) (St : Nat → Heap → Prop) : Prop where
  ref : it = .ref I
  walks : Walks c.prog c.w c.A I (I :: fr) [I] ps.length P St
  start : St 0 s₂.heap
  new : s.heap.get? I = none
  fields : ∀ i h, St i h → ∃ o vs, h.get? I = some o ∧ o.data = .fields vs
  item : ∀ i v, P i v → ∀ h, KeepT s₂.heap h → ∃ p, ps[i]? = some p ∧ p.Is h v
  rest : ∀ b ∈ fr, R b ∧ ∃ o, s₂.heap.get? b = some o ∧ Flat o.data ∧ b ≠ I
  restNow : ∀ i h, St i h → ∀ b ∈ fr, ∃ o, h.get? b = some o ∧ Flat o.data

/-- evaluating iter and taking its iterator -/
def Src (c : Cx) (σ : List (Str × Ct)) (γ : Gh) (iter : PySem.Expr) (ps : List Pt) (R : Shared → Addr → Prop) : Prop :=
  ∀ s, Inv c σ γ s → wpAny c.M c.A (eval iter c.env) (fun xv s₁ => wpAny c.M c.A (pyIter xv) (fun it s₂ => Ext s s₂ ∧ ∃ I fr P St, SrcAt c s s₂ it ps (R s) I fr P St) no s₁) no s

theorem none_of_size {h h' : Heap} (k : KeepH h h') : h.get? h'.objs.size = none := by
  cases hg : h.get? h'.objs.size with
  | none => rfl
  | some o => exact absurd (Heap.lt_size (k _ _ hg)) (Nat.lt_irrefl _)

/-- over a list -/
theorem Src.list {iter : PySem.Expr} {ps : List Pt} {R : Shared → Addr → Prop} (hh : c.A.handled = none)
    (h : ∀ s, Inv c σ γ s → wpAny c.M c.A (eval iter c.env) (fun v s' => Ext s s' ∧ ∃ a, v = .ref a ∧ R s a ∧ Lst s'.heap a ps) no s) : Src c σ γ iter ps R := fun s I =>
  wpAny_mono (h s I) (fun v s₁ ⟨e1, a, q1, q2, q3⟩ => by
    subst q1
    obtain ⟨vs, ⟨n, e⟩, q⟩ := q3
    have L : s₁.heap.IsList a vs.toArray := ⟨_, e, rfl, n, rfl⟩
    have ha : a < s₁.heap.objs.size := Heap.lt_size e
    have Wk := Walks.list (prog := c.prog) (w := c.w) hh s₁.heap.objs.size a (Nat.ne_of_lt ha) vs.toArray
    rw [show vs.toArray.size = ps.length by simp [q.length]] at Wk
    refine wpAny_pyIter_list L ⟨e1.trans .push, s₁.heap.objs.size, [a], _, _, ⟨rfl, Wk, ?_, none_of_size e1.keep, ?_, ?_, ?_, ?_⟩⟩
    · exact ⟨⟨_, Heap.get?_push_size _ rfl, rfl, rfl⟩, L.push _⟩
    · rintro i h ⟨⟨o, ho, _, hd⟩, _⟩; exact ⟨o, _, ho, hd⟩
    · intro i v hv h kt
      have hi : i < vs.length := by
        have := (Array.getElem?_eq_some_iff.mp hv).1; simpa using this
      obtain ⟨p, hp⟩ : ∃ p, ps[i]? = some p := ⟨ps[i]'(by rw [q.length]; exact hi), by simp⟩
      obtain ⟨v', hv', hq⟩ := q.get hp
      have : v' = v := by
        have h1 : vs[i]? = some v := by simpa using hv
        rw [h1] at hv'; cases hv'; rfl
      subst this
      exact ⟨p, hp, (hq.keep (fun b o e => Heap.get?_push_of_some _ e)).keepT kt⟩
    · intro b hb
      rw [List.mem_singleton.mp hb]
      exact ⟨q2, _, Heap.get?_push_of_some _ e, .inr ⟨_, _, rfl⟩, Nat.ne_of_lt ha⟩
    · rintro i h ⟨_, o, ho, _, n, hd⟩ b hb
      rw [List.mem_singleton.mp hb]
      exact ⟨o, ho, .inr ⟨_, _, hd⟩⟩) fun _ _ x => x
theorem Src.fresh {iter : PySem.Expr} {ps : List Pt} (hh : c.A.handled = none) (h : ExpF c σ γ iter ps) : Src c σ γ iter ps (fun s b => s.heap.get? b = none) :=
  .list hh fun s I => h s I
theorem Src.any {iter : PySem.Expr} {ps : List Pt} (hh : c.A.handled = none) (h : Exp c σ γ iter (.l ps)) : Src c σ γ iter ps (fun _ _ => True) :=
  .list hh fun s I => wpAny_mono (h s I) (fun v s' ⟨e1, a, q1, q2⟩ => ⟨e1, a, q1, trivial, q2⟩) fun _ _ x => x
/-- over a tuple -/
theorem Src.tup {iter : PySem.Expr} {xs : List At} (hh : c.A.handled = none) (h : Exp c σ γ iter (.p (.t xs))) : Src c σ γ iter (xs.map .a) (fun s b => True) := fun s I =>
  wpAny_mono (h s I) (fun v s₁ ⟨e1, a, vs, q1, ⟨o, e, hcl, n, hd⟩, q⟩ => by
    subst q1
    have L : s₁.heap.IsTuple a vs.toArray := ⟨o, e, hcl, n, hd⟩
    have ha : a < s₁.heap.objs.size := Heap.lt_size e
    have Wk := Walks.tuple (prog := c.prog) (w := c.w) hh s₁.heap.objs.size a (Nat.ne_of_lt ha) vs.toArray
    rw [show vs.toArray.size = (xs.map Pt.a).length by simp [q.length]] at Wk
    refine wpAny_pyIter_tuple L ⟨e1.trans .push, s₁.heap.objs.size, [a], _, _, ⟨rfl, Wk, ?_, none_of_size e1.keep, ?_, ?_, ?_, ?_⟩⟩
    · exact ⟨⟨_, Heap.get?_push_size _ rfl, rfl, rfl⟩, L.push _⟩
    · rintro i h ⟨⟨o, ho, _, hd⟩, _⟩; exact ⟨o, _, ho, hd⟩
    · intro i v hv h kt
      have hi : i < vs.length := by
        have := (Array.getElem?_eq_some_iff.mp hv).1; simpa using this
      obtain ⟨p, hp⟩ : ∃ p, xs[i]? = some p := ⟨xs[i]'(by rw [q.length]; exact hi), by simp⟩
      obtain ⟨v', hv', hq⟩ := q.get hp
      have : v' = v := by
        have h1 : vs[i]? = some v := by simpa using hv
        rw [h1] at hv'; cases hv'; rfl
      subst this
      exact ⟨.a p, by simp [hp], hq⟩
    · intro b hb
      rw [List.mem_singleton.mp hb]
      exact ⟨trivial, _, Heap.get?_push_of_some _ e, .inr ⟨_, _, hd⟩, Nat.ne_of_lt ha⟩
    · rintro i h ⟨_, o, ho, _, n, hd⟩ b hb
      rw [List.mem_singleton.mp hb]
      exact ⟨o, ho, .inr ⟨_, _, hd⟩⟩) fun _ _ x => x

/-! range -/
def rng (a b : Int) : List Pt := (List.range (b - a).toNat).map fun i => pI (a + (i : Nat))
theorem rng_length {a b : Int} : (rng a b).length = (b - a).toNat := by simp [rng]
theorem rng_get {a b : Int} {i : Nat} {p : Pt} (h : (rng a b)[i]? = some p) : p = pI (a + (i : Nat)) ∧ i < (b - a).toNat := by
  unfold rng at h
  rw [List.getElem?_map] at h
  cases hr : (List.range (b - a).toNat)[i]? with
  | none => rw [hr] at h; cases h
  | some j =>
    rw [hr] at h; cases h
    obtain ⟨h1, h2⟩ := List.getElem?_eq_some_iff.mp hr
    rw [List.length_range] at h1
    rw [List.getElem_range] at h2
    subst h2
    exact ⟨rfl, h1⟩
theorem small_of {a b : Int} (ha : -(2 ^ 62) ≤ a ∧ a < 2 ^ 62) (hb : -(2 ^ 62) ≤ b ∧ b < 2 ^ 62) : Builtin.Range.small a b 1 = true := small_one ha.1 ha.2 hb.1 hb.2
theorem rng_at {a b : Int} {i : Nat} (h : i < (b - a).toNat) : (rng a b)[i]? = some (pI (a + (i : Nat))) := by
  unfold rng
  rw [List.getElem?_map, List.getElem?_range h]; rfl
theorem rangeIter {a b : Int} (hh : c.A.handled = none) {s s₁ : Shared} {r : Addr} {t u v : Tok} (e1 : Ext s s₁) (hr : IsRange s₁.heap r a b 1 t u v) (ha : -(2 ^ 62) ≤ a ∧ a < 2 ^ 62) (hb : -(2 ^ 62) ≤ b ∧ b < 2 ^ 62) :
    wpAny c.M c.A (pyIter (.ref r)) (fun it s₂ => Ext s s₂ ∧ ∃ I fr P St, SrcAt c s s₂ it (rng a b) (fun _ => False) I fr P St) no s₁ := by
  have Wk := (Walks.range (prog := c.prog) (w := c.w) hh s₁.heap.objs.size a 1 (b - a).toNat).bound
  rw [← rng_length (a := a) (b := b)] at Wk
  refine wpAny_pyIter_range hr (small_of ha hb) ⟨e1.trans .push, s₁.heap.objs.size, [], _, _, ⟨rfl, Wk, ?_, none_of_size e1.keep, ?_, ?_, ?_, ?_⟩⟩
  · rw [rng_length, rangeSize_nat]
    show IsRangeIter _ _ _ _ _
    simpa using Heap.get?_push_size _ rfl
  · intro i h st; exact ⟨_, _, st, rfl⟩
  · rintro i w ⟨hi, t, rfl⟩ h kt
    rw [rng_length] at hi
    exact ⟨_, rng_at hi, t, by rw [Int.mul_one]⟩
  · intro b hb; cases hb
  · intro i h st b hb; cases hb
theorem Src.range1 {x : PySem.Expr} {np pos : Pos} {n : Int} (hh : c.A.handled = none) (h : Exp c σ γ x (vI n)) (e : nsIn c.K mainGlobals "range" = some none) (hk : c.env.kindOf "range" = some .globalImplicit)
    (hn : -(2 ^ 62) ≤ n ∧ n < 2 ^ 62) (hs : isStarred x = false := by rfl) : Src c σ γ (.Call (.Name "range" np) [x] [] pos) (rng 0 n) (fun _ _ => False) := fun s I =>
  wpAny_Call_NameR (nameB I e (v := .type "range") (by decide +kernel) hk (PyProof.Rows.callWith_type1 (he := starEach_cons hs) (by
    rw [starEach_cons hs]
    refine spliced_cons (wpAny_mono (h s I) (fun v s₁ ⟨e1, t, q⟩ => spliced_nil ?_) fun _ _ x => x)
    subst q
    exact call_range_1 (rangeIter hh (e1.trans (.heapToks fun b o e => Heap.get?_push_of_some _ e)) (IsRange.new ..) (by omega) hn))))
theorem Src.range2 {x y : PySem.Expr} {np pos : Pos} {m n : Int} (hh : c.A.handled = none) (h1 : Exp c σ γ x (vI m)) (h2 : Exp c σ γ y (vI n)) (e : nsIn c.K mainGlobals "range" = some none) (hk : c.env.kindOf "range" = some .globalImplicit)
    (hm : -(2 ^ 62) ≤ m ∧ m < 2 ^ 62) (hn : -(2 ^ 62) ≤ n ∧ n < 2 ^ 62) (hs : isStarred x = false := by rfl) (hs' : isStarred y = false := by rfl) : Src c σ γ (.Call (.Name "range" np) [x, y] [] pos) (rng m n) (fun _ _ => False) := fun s I =>
  wpAny_Call_NameR (nameB I e (v := .type "range") (by decide +kernel) hk (PyProof.Rows.callWith_type1 (he := starEach_cons hs) (hplain := by rw [starEach_cons hs']; rfl) (by
    rw [starEach_cons hs, starEach_cons hs']
    refine spliced_cons (wpAny_mono (h1 s I) (fun v s₁ ⟨e1, t, q⟩ => spliced_cons (wpAny_mono (h2 s₁ (I.ext e1)) (fun v' s₂ ⟨e2, t', q'⟩ => spliced_nil ?_) fun _ _ x => x)) fun _ _ x => x)
    subst q q'
    exact call_range_2 (rangeIter hh ((e1.trans e2).trans (.heapToks fun b o e => Heap.get?_push_of_some _ e)) (IsRange.new ..) hm hn))))

/-! ## loops -/
variable {rest : List Stmt} {Q : Flow → Shared → Prop} {E : Value → Shared → Prop}
/-- a for over a source. J i: the names' contents ahead of turn i. -/
theorem W.for_ {x : Str} {px pos : Pos} {iter : PySem.Expr} {body : List Stmt} {ps : List Pt} {R : Shared → Addr → Prop} {Rt : Value → Shared → Prop} (J : Nat → List (Str × Ct)) (I : Inv c (J 0) γ s)
    (hsrc : Src c (J 0) γ iter ps R) (hx : Sto c x)
    (hbody : ∀ i p γ' s', ps[i]? = some p → (∀ q ∈ γ'.objs, q ∈ γ.objs ∨ s.heap.get? q.1 = none ∨ R s q.1) → Inv c ((x, .p p) :: J i) γ' s' →
      W c body (fun f s'' => match f with | .next => Inv c (J (i + 1)) γ' s'' | .ret v => Rt v s'' | _ => False) no s')
    (k : ∀ s', Inv c (J ps.length) γ s' → W c rest Q E s') (kr : ∀ v s', Rt v s' → Q (.ret v) s')
    (hs : ∀ x, foldedSetIterable iter c.env x = pure x := by intro _; rfl) (ht : ∀ it v, letOwnedTupleGo (.Name x px) it v = pure () := by intro _ _; rfl) :
    W c (.For (.Name x px) iter body [] pos :: rest) Q E s := by
  refine wpAny_execs_cons (wpAny_For (wpAny_mono (hsrc s I) (fun xv s₁ h₁ => wpAny_mono h₁ (fun it s₂ ⟨e2, It, fr, P, St, S⟩ => ?_) fun _ _ x => x.elim) fun _ _ x => x.elim) hs)
  have I2 := I.ext e2
  obtain rfl := S.ref
  have hB : c.B.heap.get? It = none := by
    cases hg : c.B.heap.get? It with
    | none => rfl
    | some o => have := I.keep _ _ hg; rw [S.new] at this; cases this
  have hγI : ∀ p ∈ γ.objs, p.1 ≠ It := fun p hp q => by
    have := (I.gh p hp).1; rw [q, S.new] at this; cases this
  refine codeAny_forLoop (fun n s' => ∃ i, n = ps.length + 1 - i ∧ i ≤ ps.length ∧ St i s'.heap ∧ Inv c (J i) γ s' ∧ KeepT s₂.heap s'.heap) ?_ (ps.length + 1) ⟨0, by omega, by omega, S.start, I2, fun _ _ x => x⟩ (ht _)
  rintro n s' ⟨i, rfl, hi, hst, I', kt⟩
  obtain ⟨o0, vs0, ho0, hd0⟩ := S.fields i _ hst
  have nt0 : NoTup o0 := .inr fun _ _ e => by rw [hd0] at e; cases e
  by_cases hlt : i < ps.length
  · refine S.walks.item i s' _ _ hlt hst fun v h' tk hP hst' kp => ?_
    have kb : KeepBut It s'.heap h' := fun b o hb e => kp b o (by simpa using hb) e
    have I1 : Inv c (J i) γ { s' with heap := h', toks := tk } := I'.chg ho0 hd0 hB hγI kb
    obtain ⟨o1, vs1, ho1, hd1⟩ := S.fields (i + 1) _ hst'
    obtain ⟨p, hp, hpi⟩ := S.item i v hP h' (kt.trans (.but ho0 nt0 kb))
    -- the iterator and what it walks stand during the turn
    have hfr : ∃ γ₁ : List (Addr × Obj), (∀ b ∈ It :: fr, ∃ o, (b, o) ∈ γ₁) ∧ ∀ q ∈ γ₁, q.1 ∈ It :: fr ∧ h'.get? q.1 = some q.2 ∧ Flat q.2.data := by
      have aux : ∀ l : List Addr, (∀ b ∈ l, ∃ o, h'.get? b = some o ∧ Flat o.data) → ∃ γ₁ : List (Addr × Obj), (∀ b ∈ l, ∃ o, (b, o) ∈ γ₁) ∧ ∀ q ∈ γ₁, q.1 ∈ l ∧ h'.get? q.1 = some q.2 ∧ Flat q.2.data := by
        intro l
        induction l with
        | nil => intro _; exact ⟨[], by simp, by simp⟩
        | cons b l ih =>
          intro hl
          obtain ⟨g, g1, g2⟩ := ih fun b' hb' => hl b' (.tail _ hb')
          obtain ⟨o, ho, hf⟩ := hl b (.head _)
          refine ⟨(b, o) :: g, fun b' hb' => ?_, fun q hq => ?_⟩
          · rcases List.mem_cons.mp hb' with rfl | hb'
            · exact ⟨o, .head _⟩
            · obtain ⟨o', ho'⟩ := g1 b' hb'; exact ⟨o', .tail _ ho'⟩
          · rcases List.mem_cons.mp hq with rfl | hq
            · exact ⟨.head _, ho, hf⟩
            · exact ⟨.tail _ (g2 q hq).1, (g2 q hq).2⟩
      refine aux _ fun b hb => ?_
      rcases List.mem_cons.mp hb with rfl | hb
      · exact ⟨o1, ho1, .inl ⟨_, hd1⟩⟩
      · exact S.restNow (i + 1) h' hst' b hb
    obtain ⟨γ₁, g1, g2⟩ := hfr
    have I1' : Inv c (J i) ⟨γ.objs ++ γ₁, h'⟩ { s' with heap := h', toks := tk } := ⟨I1.amb, I1.keep, I1.rest, I1.frm, fun q hq => by
      rcases List.mem_append.mp hq with hq | hq
      · exact I1.gh q hq
      · exact (g2 q hq).2, .rfl'⟩
    refine wpAny_assign_Name (I1'.store (ct := .p p) hpi hx fun s'' I'' => ?_)
    refine wpAny_mono (hbody i p ⟨γ.objs ++ γ₁, h'⟩ s'' hp (fun q hq => ?_) I'') (fun f s₃ hf => ?_) fun _ _ x => x.elim
    · rcases List.mem_append.mp hq with hq | hq
      · exact .inl hq
      · rcases List.mem_cons.mp (g2 q hq).1 with e | e
        · rw [e]; exact .inr (.inl S.new)
        · exact .inr (.inr (S.rest _ e).1)
    · cases f with
      | next =>
        have I3 := hf
        refine ⟨ps.length + 1 - (i + 1), by omega, i + 1, rfl, hlt, S.walks.frame _ _ _ hst' fun b hb o e => ?_, I3.ghost (fun q hq => List.mem_append_left _ hq) (I1.kt.trans I3.kt), (kt.trans (.but ho0 nt0 kb)).trans I3.kt⟩
        obtain ⟨o', hm⟩ := g1 b hb
        have := (g2 _ hm).2.1
        rw [e] at this; cases this
        exact (I3.gh _ (List.mem_append_right _ hm)).1
      | ret v => exact kr _ _ hf
      | brk => exact hf.elim
      | cont => exact hf.elim
  · have hin : i = ps.length := by omega
    subst hin
    refine S.walks.done s' _ _ hst fun h' tk kp => ?_
    have kb : KeepBut It s'.heap h' := fun b o hb e => kp b o (by simpa using hb) e
    exact wpAny_execs_nil (k _ (I'.chg ho0 hd0 hB hγI kb))

/-- while. J i: the names' contents ahead of turn i; n turns. -/
theorem W.while_ {test : PySem.Expr} {body : List Stmt} {pos : Pos} (J : Nat → List (Str × Ct)) (n : Nat) (I : Inv c (J 0) γ s)
    (ht : ∀ i, i ≤ n → Tst c (J i) γ test (decide (i < n)))
    (hbody : ∀ i s', i < n → Inv c (J i) γ s' → W c body (fun f s'' => match f with | .next => Inv c (J (i + 1)) γ s'' | _ => False) no s')
    (k : ∀ s', Inv c (J n) γ s' → W c rest Q E s') : W c (.While test body [] pos :: rest) Q E s := by
  refine wpAny_execs_cons (wpAny_While (codeAny_whileLoop (fun m s' => ∃ i, m = n - i ∧ i ≤ n ∧ Inv c (J i) γ s') ?_ n ⟨0, rfl, Nat.zero_le _, I⟩))
  rintro m s' ⟨i, rfl, hi, I'⟩
  refine wpAny_mono (ht i hi s' I') (fun b s₂ ⟨e, q⟩ => ?_) fun _ _ x => x.elim
  subst q
  by_cases hlt : i < n
  · rw [if_pos (by simp [hlt])]
    refine wpAny_mono (hbody i s₂ hlt (I'.ext e)) (fun f s₃ hf => ?_) fun _ _ x => x.elim
    cases f with
    | next => exact ⟨n - (i + 1), by omega, i + 1, rfl, hlt, hf⟩
    | ret v => exact hf.elim
    | brk => exact hf.elim
    | cont => exact hf.elim
  · rw [if_neg (by simp [hlt])]
    have : i = n := by omega
    subst this
    exact wpAny_execs_nil (k _ (I'.ext e))
end
end Mine

namespace Mine
section
variable {c : Cx} {σ σ' : List (Str × Ct)} {γ : Gh} {s : Shared}

/-! ## comprehensions -/
/-- the tests of a clause -/
abbrev tests (ifs : List PySem.Expr) (env : Env) : Sem Bool := forIn ifs true fun c r => if r = true then do let ok ← isTrue c env (eval c env); pure (ForInStep.yield ok) else pure (ForInStep.yield r)
/-- one turn: what it adds -/
def Turn (c : Cx) (σ : List (Str × Ct)) (γ : Gh) (ifs : List PySem.Expr) (elt : PySem.Expr) (out : List Pt) : Prop :=
  ∃ b, (∀ s, Inv c σ γ s → wpAny c.M c.A (tests ifs c.env) (fun ok s' => Ext s s' ∧ ok = b) no s) ∧ ((b = false ∧ out = []) ∨ (b = true ∧ ∃ q, out = [q] ∧ Exp c σ γ elt (.p q)))
theorem Turn.one {elt : PySem.Expr} {q : Pt} (h : Exp c σ γ elt (.p q)) : Turn c σ γ [] elt [q] := ⟨true, fun s I => wpAny_tests_nil ⟨.rfl', rfl⟩, .inr ⟨rfl, q, rfl, h⟩⟩
theorem Turn.skip {elt t : PySem.Expr} (h : Tst c σ γ t false) : Turn c σ γ [t] elt [] := ⟨false, fun s I => wpAny_tests_one (h s I), .inl ⟨rfl, rfl⟩⟩
abbrev Cx.comp (c : Cx) (scope : Scope) (cl : List (Str × Addr)) (C : Addr) (B : Shared) : Cx := { c with env := compEnvC scope cl C c.env, B := B }

/-- what is asked of a comprehension's scope -/
structure Scp (c : Cx) (σ σf : List (Str × Ct)) (x : Str) (scope : Scope) (cl : List (Str × Addr)) : Prop where
  clos : closureFor scope c.env = pure cl
  cell : ∀ y ∈ scope.names, y.2 ≠ .cell
  kind : scope.kind = .function
  names : ∀ y ∈ scope.names, y.2 = .local → scope.names.lookup y.1 = some .local
  var : scope.names.lookup x = some .local
  cels : ∀ y b, cl.lookup y = some b → c.env.cells.lookup y = some b
  sub : ∀ p ∈ σf, σ.lookup p.1 = some p.2 ∧ c.env.kindOf p.1 = some .cell ∧ (cl.lookup p.1).isSome = true ∧ p.1 ≠ x ∧ ∀ C, (compEnvC scope cl C c.env).kindOf p.1 ≠ some .local

theorem Lst.other {h h' : Heap} {a b : Addr} {oa : Obj} {ps : List Pt} (x : Lst h b ps) (ha : h.get? a = some oa) (hl : ∀ vs n, oa.data ≠ .seq vs n) (k : KeepBut a h h') : Lst h' b ps :=
  x.but ha (.inr hl) k (by rintro rfl; obtain ⟨vs, ⟨n, e⟩, _⟩ := x; rw [ha] at e; cases e; exact hl _ _ rfl)

theorem comp_core {elt iter : PySem.Expr} {x : Str} {px : Pos} {ifs : List PySem.Expr} {scope : Scope} {cl : List (Str × Addr)} {pos : Pos} {σf : List (Str × Ct)} {ps : List Pt} {f : Pt → List Pt}
    {R : Addr → Prop} {It : Addr} {fr : List Addr} {P : Nat → Value → Prop} {St : Nat → Heap → Prop} {s₂ : Shared} {RR : Value → Addr → Result → Shared → Prop}
    (I : Inv c σ γ s) (e2 : Ext s s₂) (S : SrcAt c s s₂ (.ref It) ps R It fr P St) (sc : Scp c σ σf x scope cl) (hsz : ps.length ≤ sizeLine)
    (hturn : ∀ C B p γ', p ∈ ps → Turn (c.comp scope cl C B) ((x, .p p) :: σf) γ' ifs elt (f p))
    (hRR : ∀ D C s', Ext s s' → s.heap.get? D = none → s.heap.get? C = none → D ≠ C → (∃ m, s'.heap.Ns C m) → Lst s'.heap D (ps.flatMap f) → RR (.ref D) C (.ok .next) s') :
    wpAny c.M c.A (newList []) (fun acc s₃ => wpAny c.M c.A (newFunctionEnv scope c.env.globals cl [] c.env.qual none .none (some c.env)) (fun cenv s₄ =>
      codeAny c.M c.A (.compStart (.ListComp elt [⟨.Name x px, iter, ifs, 0⟩] scope pos) 0 (.ref It) acc { cenv with scope := relabel scope c.env }) (RR acc cenv.locals) s₄) no s₃) no s₂ := by
  refine wpAny_newObj_type (wpAny_newFunctionEnv sc.cell (by intro y hy; simp at hy) (fun h₁ hns₁ hsb₁ => ?_) sc.kind)
  dsimp only at hns₁ hsb₁ ⊢
  generalize hH2 : s₂.heap.push { cls := .type "list", dict := none, data := .seq ([] : List Value).toArray } = H2 at hns₁ hsb₁ ⊢
  have hC : H2.objs.size = s₂.heap.objs.size + 1 := by rw [← hH2, Heap.size_push]
  have hDC : s₂.heap.objs.size ≠ H2.objs.size := by rw [hC]; exact Nat.ne_of_lt (Nat.lt_succ_self _)
  have below : ∀ b, b < s₂.heap.objs.size → b ≠ H2.objs.size := fun b hb => by rw [hC]; exact Nat.ne_of_lt (Nat.lt_succ_of_lt hb)
  have old : KeepH s₂.heap h₁ := fun b o e => hsb₁.extBut b o (below b (Heap.lt_size e)) (Heap.get?_push_of_some _ (hH2 ▸ Heap.get?_push_of_some _ e))
  have fresh : ∀ a, s₂.heap.objs.size ≤ a → s₂.heap.get? a = none := fun a ha => Heap.get?_none_of_le ha
  have freshS : ∀ a, s₂.heap.objs.size ≤ a → s.heap.get? a = none := fun a ha => by
    cases hg : s.heap.get? a with
    | none => rfl
    | some o => have := e2.keep _ _ hg; rw [fresh a ha] at this; cases this
  have hD0 : Lst h₁ s₂.heap.objs.size [] := ⟨[], ⟨_, hsb₁.extBut _ _ hDC (Heap.get?_push_of_some _ (hH2 ▸ Heap.get?_push_size _ rfl))⟩, trivial⟩
  generalize hDg : s₂.heap.objs.size = D at *
  generalize hCg : H2.objs.size = C at *
  have hCs : s.heap.get? C = none := freshS C (by rw [hC]; exact Nat.le_succ _)
  have hDs : s.heap.get? D = none := freshS D (Nat.le_refl _)
  obtain ⟨o0, vs0, ho0, hd0⟩ := S.fields 0 _ S.start
  have hst₁ : St 0 h₁ := S.walks.frame _ _ _ S.start fun b _ o e => old b o e
  -- the comprehension's own context
  have mk : ∀ (γ' : Gh) (h' : Heap) (tk : Nat) (m : Str → Option Value), KeepH s.heap h' → h'.Ns C m → (∀ q ∈ γ'.objs, h'.get? q.1 = some q.2 ∧ Flat q.2.data) → KeepT γ'.tup h' → Inv (c.comp scope cl C s) σf γ' { s with heap := h', toks := tk } := by
    intro γ' h' tk m kp hn hg ht
    refine ⟨I.ambH, kp, rfl, ⟨?_, I.frm.glob, I.frm.blt, hCs, ⟨m, hn, fun y ct e hk => ?_⟩, fun y b e => ?_, fun y z b e1 e2 => I.frm.inj y z b (sc.cels _ _ e1) (sc.cels _ _ e2), fun y ct e hk => ?_⟩, hg, ht⟩
    · exact sc.kind
    · exact absurd hk ((sc.sub _ (lookup_mem e)).2.2.2.2 C)
    · obtain ⟨v, hv⟩ := I.frm.cel y b (sc.cels _ _ e); exact ⟨v, Heap.IsCell.keep hv kp⟩
    · obtain ⟨h1, h2, h3, _, _⟩ := sc.sub _ (lookup_mem e)
      obtain ⟨b, v, e1, e2, e3⟩ := I.frm.cv y ct h1 (.inl h2)
      obtain ⟨b', hb'⟩ := Option.isSome_iff_exists.mp h3
      have := sc.cels _ _ hb'
      rw [e1] at this; cases this
      exact ⟨b, v, hb', Heap.IsCell.keep e2 kp, e3.keep kp⟩
  have loop : ∀ s₃ : Shared, s₃ = { s₂ with heap := h₁, toks := s₂.toks + ([] : List (Str × Value)).length } →
      codeAny c.M c.A (.compLoop (.ListComp elt [⟨.Name x px, iter, ifs, 0⟩] scope pos) 0 (.ref It) (.ref D) (compEnvC scope cl C c.env)) (RR (.ref D) C) s₃ := by
    rintro s₃ rfl
    refine codeAny_compLoop_tests (fun n s' => ∃ i, n = ps.length + 1 - i ∧ i ≤ ps.length ∧ St i s'.heap ∧ KeepT s₂.heap s'.heap ∧ Ext s s' ∧ (∃ m, s'.heap.Ns C m) ∧ Lst s'.heap D ((ps.take i).flatMap f)) ?_ (ps.length + 1)
      ⟨0, by omega, by omega, hst₁, .of old, e2.trans (.heapToks old), ⟨_, hns₁⟩, by simpa using hD0⟩ (by intro v; rfl)
    rintro n s' ⟨i, rfl, hi, hst, kt, ex, ⟨m, hn⟩, hL⟩
    obtain ⟨o0, vs0, ho0, hd0⟩ := S.fields i _ hst
    have ns0 : ∀ vs n, o0.data ≠ .seq vs n := fun _ _ e => by rw [hd0] at e; cases e
    have hsNo : ∀ b o, s.heap.get? b = some o → b ≠ It := fun b o e q => by rw [q, S.new] at e; cases e
    by_cases hlt : i < ps.length
    · refine S.walks.item i s' _ _ hlt hst fun v h' tk hP hst' kp => ?_
      have kb : KeepBut It s'.heap h' := fun b o hb e => kp b o (by simpa using hb) e
      have kt' : KeepT s₂.heap h' := kt.trans (.but ho0 (.inr ns0) kb)
      obtain ⟨p, hp, hpi⟩ := S.item i v hP h' kt'
      have exk : KeepH s.heap h' := fun b o e => kb b o (hsNo b o e) (ex.keep b o e)
      have hn' : h'.Ns C m := by
        obtain ⟨o, es, ep, ho, hdt, r⟩ := hn
        exact ⟨o, es, ep, kb _ o (by intro q; rw [q, ho0] at ho; cases ho; rw [hd0] at hdt; cases hdt) ho, hdt, r⟩
      have hL' : Lst h' D ((ps.take i).flatMap f) := hL.other ho0 ns0 kb
      obtain ⟨o1, vs1, ho1, hd1⟩ := S.fields (i + 1) _ hst'
      have aux : ∀ l : List Addr, (∀ b ∈ l, ∃ o, h'.get? b = some o ∧ Flat o.data) → ∃ γ₁ : List (Addr × Obj), (∀ b ∈ l, ∃ o, (b, o) ∈ γ₁) ∧ ∀ q ∈ γ₁, q.1 ∈ l ∧ h'.get? q.1 = some q.2 ∧ Flat q.2.data := by
        intro l
        induction l with
        | nil => intro _; exact ⟨[], by simp, by simp⟩
        | cons b l ih =>
          intro hl
          obtain ⟨g, g1, g2⟩ := ih fun b' hb' => hl b' (.tail _ hb')
          obtain ⟨o, ho, hf⟩ := hl b (.head _)
          refine ⟨(b, o) :: g, fun b' hb' => ?_, fun q hq => ?_⟩
          · rcases List.mem_cons.mp hb' with rfl | hb'
            · exact ⟨o, .head _⟩
            · obtain ⟨o', ho'⟩ := g1 b' hb'; exact ⟨o', .tail _ ho'⟩
          · rcases List.mem_cons.mp hq with rfl | hq
            · exact ⟨.head _, ho, hf⟩
            · exact ⟨.tail _ (g2 q hq).1, (g2 q hq).2⟩
      obtain ⟨γ₁, g1, g2⟩ := aux (D :: It :: fr) (fun b hb => by
        rcases List.mem_cons.mp hb with rfl | hb
        · obtain ⟨vs, ⟨n, e⟩, _⟩ := hL'; exact ⟨_, e, .inr ⟨_, _, rfl⟩⟩
        · rcases List.mem_cons.mp hb with rfl | hb
          · exact ⟨o1, ho1, .inl ⟨_, hd1⟩⟩
          · exact S.restNow (i + 1) h' hst' b hb)
      have I1 := mk ⟨γ₁, h'⟩ h' tk m exk hn' (fun q hq => (g2 q hq).2) .rfl'
      have hrest : ({ s' with heap := h', toks := tk } : Shared) = { s with heap := h', toks := tk } := by rw [ex.rest]
      rw [hrest]
      refine wpAny_assign_Name (Inv.store (c := c.comp scope cl C s) I1 (ct := .p p) hpi (.inl (lookup_relabel_local sc.var)) fun s₅ I5 => ?_)
      have hpm : p ∈ ps := List.mem_of_getElem? hp
      obtain ⟨b, hb, hout⟩ := hturn C s p ⟨γ₁, h'⟩ hpm
      refine wpAny_mono (hb s₅ I5) (fun ok s₆ ⟨e6, hok⟩ => ?_) fun _ _ x => x.elim
      subst hok
      have I6 := I5.ext e6
      -- what stands behind the turn
      have stand : ∀ {s₇ : Shared} (k7 : KeepBut D s₆.heap s₇.heap), St (i + 1) s₇.heap := fun {s₇} k7 => S.walks.frame _ _ _ hst' fun b hb o e => by
        obtain ⟨o', hm⟩ := g1 b (.tail _ hb)
        have := (g2 _ hm).2.1
        rw [e] at this; cases this
        refine k7 b _ (fun q => ?_) (I6.gh _ hm).1
        subst q
        -- D is not the iterator nor what it walks
        rcases List.mem_cons.mp hb with q | q
        · obtain ⟨o2, _, h2, _⟩ := S.fields 0 _ S.start
          rw [← q] at h2
          rw [fresh b (Nat.le_refl _)] at h2; cases h2
        · obtain ⟨_, o2, h2, _, _⟩ := S.rest b q
          rw [fresh b (Nat.le_refl _)] at h2; cases h2
      have hL6 : Lst s₆.heap D ((ps.take i).flatMap f) := by
        obtain ⟨vs, ⟨n, e⟩, q⟩ := hL'
        obtain ⟨o', hm⟩ := g1 D (.head _)
        have := (g2 _ hm).2.1
        rw [e] at this; cases this
        exact ⟨vs, ⟨n, (I6.gh _ hm).1⟩, q.mono fun _ _ y => y.keepT I6.kt⟩
      have nm6 : ∃ m, s₆.heap.Ns C m := by obtain ⟨m, h, _⟩ := I6.frm.loc; exact ⟨m, h⟩
      have htake : ps.take (i + 1) = ps.take i ++ [p] := by rw [List.take_add_one, hp]; rfl
      have ex6 : Ext s s₆ := I6.toExt
      rcases hout with ⟨rfl, ho⟩ | ⟨rfl, q0, ho, hE⟩
      · rw [if_neg (by decide)]
        refine ⟨ps.length + 1 - (i + 1), by omega, i + 1, rfl, hlt, stand (fun _ _ _ e => e), kt'.trans I6.kt, ex6, nm6, ?_⟩
        rw [htake, List.flatMap_append, show [p].flatMap f = [] by simp [ho], List.append_nil]
        exact hL6
      · rw [if_pos rfl]
        refine wpAny_mono (hE s₆ I6) (fun y s₇ ⟨e7, q7⟩ => ?_) fun _ _ x => x.elim
        have hL7 := hL6.keep e7.keep
        obtain ⟨vs, ⟨n7, e⟩, q⟩ := hL7
        have hlen : vs.length ≤ ps.length := by
          rw [← q.length]
          have : ∀ l : List Pt, (∀ p ∈ l, p ∈ ps) → (l.flatMap f).length ≤ l.length := by
            intro l
            induction l with
            | nil => intro _; simp
            | cons a l ih =>
              intro hl
              obtain ⟨_, _, ho⟩ := hturn C s a ⟨γ₁, h'⟩ (hl a (.head _))
              have h1 : (f a).length ≤ 1 := by rcases ho with ⟨_, ho⟩ | ⟨_, _, ho, _⟩ <;> simp [ho]
              have h2 := ih fun p hp => hl p (.tail _ hp)
              simp only [List.flatMap_cons, List.length_append, List.length_cons]
              omega
          have h2 := this (ps.take i) fun p hp => List.mem_of_mem_take hp
          have h3 : (ps.take i).length ≤ ps.length := by simp; omega
          omega
        refine wpAny_list_append_plain ⟨n7, e⟩ (fun h₈ hp8 hs8 => ?_) (by simp only [List.size_toArray]; omega)
        have k8 : KeepBut D s₇.heap h₈ := fun b o hb e => (hs8.2 b hb).trans e
        have nt : NoTup ({ cls := .type "list", data := .seq vs.toArray n7 } : Obj) := .inl (by simp)
        refine ⟨ps.length + 1 - (i + 1), by omega, i + 1, rfl, hlt, stand (s₇ := { s₇ with heap := h₈ }) (fun b o hb e' => k8 b o hb (e7.keep b o e')), ((kt'.trans I6.kt).trans (.of e7.keep)).trans (.but e nt k8), ?_, ?_, ?_⟩
        · refine ⟨fun b o e' => k8 b o (by rintro rfl; rw [hDs] at e'; cases e') (e7.keep b o (ex6.keep b o e')), ?_⟩
          have := (ex6.trans e7).rest
          show ({ s₇ with heap := h₈ } : Shared) = _
          rw [this]
        · obtain ⟨m, o, es, ep, hoC, hdt, r⟩ := nm6
          exact ⟨m, o, es, ep, k8 C o (Ne.symm hDC) (e7.keep _ _ hoC), hdt, r⟩
        · refine ⟨vs ++ [y], ?_, ?_⟩
          · simpa using hp8
          · rw [htake, List.flatMap_append, show [p].flatMap f = [q0] by simp [ho]]
            exact (q.mono fun _ _ z => z.but e nt k8).append ⟨Pt.Is.but (p := q0) q7 e nt k8, trivial⟩
    · have hin : i = ps.length := by omega
      subst hin
      refine S.walks.done s' _ _ hst fun h' tk kp => ?_
      have kb : KeepBut It s'.heap h' := fun b o hb e => kp b o (by simpa using hb) e
      refine hRR D C _ ⟨fun b o e => kb b o (hsNo b o e) (ex.keep b o e), by rw [ex.rest]⟩ hDs hCs hDC ?_ ?_
      · obtain ⟨o, es, ep, ho, hdt, r⟩ := hn
        exact ⟨m, o, es, ep, kb _ o (by intro q; rw [q, ho0] at ho; cases ho; rw [hd0] at hdt; cases hdt) ho, hdt, r⟩
      · have := hL.other ho0 ns0 kb
        rwa [List.take_length] at this
  exact codeAny_compStart_list (loop _ rfl) (S.walks.self 0 _ _ _ hst₁ (loop _ rfl))

theorem ExpF.comp {elt iter : PySem.Expr} {x : Str} {px : Pos} {ifs : List PySem.Expr} {scope : Scope} {pos : Pos} {ps : List Pt} {R : Shared → Addr → Prop} (cl : List (Str × Addr)) (σf : List (Str × Ct)) (f : Pt → List Pt)
    (hsrc : Src c σ γ iter ps R) (sc : Scp c σ σf x scope cl) (hsz : ps.length ≤ sizeLine) (hturn : ∀ C B p γ', p ∈ ps → Turn (c.comp scope cl C B) ((x, .p p) :: σf) γ' ifs elt (f p))
    (hs : ∀ x, foldedSetIterable iter c.env x = pure x := by intro _; rfl) : ExpF c σ γ (.ListComp elt [⟨.Name x px, iter, ifs, 0⟩] scope pos) (ps.flatMap f) := fun s I => by
  rw [eval_ListComp]
  refine wpAny_comprehension_free (use := none) rfl hs sc.clos sc.kind sc.names (wpAny_mono (hsrc s I) (fun xv s₁ h₁ => wpAny_mono h₁ (fun it s₂ ⟨e2, It, fr, P, St, S⟩ => ?_) fun _ _ e => e) fun _ _ e => e)
  obtain rfl := S.ref
  refine comp_core (RR := fun acc C => compPost c.M c.A no none (fun v s' => Ext s s' ∧ ∃ a, v = .ref a ∧ s.heap.get? a = none ∧ Lst s'.heap a (ps.flatMap f)) acc C) I e2 S sc hsz hturn fun D C s' ex hD hC hDC ⟨m, hn⟩ hL => ?_
  refine ⟨m, hn, fun h' hs' => ?_⟩
  obtain ⟨o, es, ep, ho, hdt, _⟩ := hn
  have kb : KeepBut C s'.heap h' := fun b o hb e => (hs'.2 b hb).trans e
  exact ⟨⟨fun b o e => kb b o (by rintro rfl; rw [hC] at e; cases e) (ex.keep b o e), by rw [ex.rest]⟩, D, rfl, hD, hL.other ho (fun _ _ e => by rw [hdt] at e; cases e) kb⟩
variable {rest : List Stmt} {Q : Flow → Shared → Prop} {E : Value → Shared → Prop}
/-- y = [ .. ], stored ahead of the names' going -/
theorem W.assignComp {elt iter : PySem.Expr} {x y : Str} {px py pos spos : Pos} {ifs : List PySem.Expr} {scope : Scope} {ps : List Pt} {R : Shared → Addr → Prop} (cl : List (Str × Addr)) (σf : List (Str × Ct)) (f : Pt → List Pt)
    (I : Inv c σ γ s) (hsrc : Src c σ γ iter ps R) (sc : Scp c σ σf x scope cl) (hsz : ps.length ≤ sizeLine) (hy : c.env.kindOf y = some .local)
    (hsw : swapsWith (.ListComp elt [⟨.Name x px, iter, ifs, 0⟩] scope pos) (some (.Name y py)) spos.line c.env = pure true)
    (hturn : ∀ C B p γ', p ∈ ps → Turn (c.comp scope cl C B) ((x, .p p) :: σf) γ' ifs elt (f p))
    (k : ∀ a s', s.heap.get? a = none → Inv c ((y, .l a (ps.flatMap f)) :: σ) γ s' → W c rest Q E s')
    (hs : ∀ x, foldedSetIterable iter c.env x = pure x := by intro _; rfl) : W c (.Assign [.Name y py] (.ListComp elt [⟨.Name x px, iter, ifs, 0⟩] scope pos) spos :: rest) Q E s := by
  refine wpAny_execs_cons ?_
  rw [exec_Assign_Name_used _ _ _ _ hsw]
  refine wpAny_bind (wpAny_standAt (wpAny_bind ?_))
  show wpAny _ c.A (do let _ ← comprehension (.ListComp elt [⟨.Name x px, iter, ifs, 0⟩] scope pos) scope c.env _ (newList []) false (eval iter c.env) (some (PySem.assign (.Name y py) c.env))) _ _ s
  refine wpAny_bind (wpAny_mono (wpAny_comprehension_free (E := no) (use := some (PySem.assign (.Name y py) c.env)) (Q := fun _ s' => W c rest Q E s') rfl hs sc.clos sc.kind sc.names
    (wpAny_mono (hsrc s I) (fun xv s₁ h₁ => wpAny_mono h₁ (fun it s₂ ⟨e2, It, fr, P, St, S⟩ => ?_) fun _ _ e => e) fun _ _ e => e)) (fun _ s' hq => wpAny_pure (wpAny_pure hq)) fun _ _ e => e.elim)
  obtain rfl := S.ref
  refine comp_core (RR := fun acc C => compPost c.M c.A no (some (PySem.assign (.Name y py) c.env)) (fun _ s' => W c rest Q E s') acc C) I e2 S sc hsz hturn fun D C s' ex hD hC hDC ⟨m, hn⟩ hL => ?_
  show wpAny _ c.A (PySem.assign (.Name y py) c.env (.ref D)) _ _ _
  obtain ⟨o, es, ep, ho, hdt, hr⟩ := hn
  -- the comprehension's own names' object stands beside
  have hgh : Inv c σ γ s' := I.ext ex
  refine wpAny_assign_Name ?_
  obtain ⟨m0, hn0, hm0⟩ := hgh.frm.loc
  have hLC : c.env.locals ≠ C := by
    intro q
    obtain ⟨m1, hn1, _⟩ := I.frm.loc
    obtain ⟨o1, _, _, h1, _⟩ := hn1
    rw [q, hC] at h1; cases h1
  -- store, then the names go
  refine Inv.storeLoc' hgh (ct := .l D (ps.flatMap f)) ⟨rfl, hL⟩ hy fun s'' I3 kb => ?_
  have h3 : s''.heap.get? C = some o := kb C o (Ne.symm hLC) ho
  refine ⟨m, ⟨o, es, ep, h3, hdt, hr⟩, fun h' hs' => k D _ hD ?_⟩
  have := I3.chg' (h' := h') (tk := s''.toks) h3 (fun _ _ e => by rw [hdt] at e; cases e) (fun _ e => by rw [hdt] at e; cases e) (Ne.symm hLC) (by
    cases hg : c.B.heap.get? C with
    | none => rfl
    | some o => have := I.keep _ _ hg; rw [hC] at this; cases this) (fun p hp q => by have := (I.gh p hp).1; rw [q, hC] at this; cases this) (fun b o hb e => (hs'.2 b hb).trans e)
  exact this
end
end Mine

namespace Mine
section
variable {c : Cx} {σ σ' : List (Str × Ct)} {γ : Gh} {s : Shared} {rest : List Stmt} {Q : Flow → Shared → Prop} {E : Value → Shared → Prop}

/-! ## calls of the text's own functions -/
structure AOk (n : Nat) (A : Around) : Prop where
  handled : A.handled = none
  depth : A.depth + n < recursionLimit
  units : A.units + 10 * n < 9000
theorem AOk.deeper {n : Nat} {A : Around} {env : Env} (h : AOk (n + 1) A) : AOk n (A.deeper env) :=
  ⟨h.handled, by have := h.depth; show A.depth + 1 + n < _; omega, by have := h.units; show A.units + 3 + 10 * n < _; omega⟩
theorem AOk.le {n m : Nat} {A : Around} (h : AOk n A) (hm : m ≤ n) : AOk m A := ⟨h.handled, by have := h.depth; omega, by have := h.units; omega⟩

/-- the value, a list being new -/
def Vl.New (s s' : Shared) (x : Vl) (v : Value) : Prop := match x with
  | .p q => q.Is s'.heap v
  | .l ps => ∃ a, v = .ref a ∧ s.heap.get? a = none ∧ Lst s'.heap a ps
  | .r a => v = .ref a
theorem Vl.New.is {s s' : Shared} {x : Vl} {v : Value} (h : x.New s s' v) : x.Is s'.heap v := by
  cases x with
  | p q => exact h
  | l ps => obtain ⟨a, e, _, y⟩ := h; exact ⟨a, e, y⟩
  | r a => exact h
theorem Vl.New.from {s₀ s s' : Shared} {x : Vl} {v : Value} (h : x.New s s' v) (k : KeepH s₀.heap s.heap) : x.New s₀ s' v := by
  cases x with
  | p q => exact h
  | l ps =>
    obtain ⟨a, e, h1, y⟩ := h
    refine ⟨a, e, ?_, y⟩
    cases hg : s₀.heap.get? a with
    | none => rfl
    | some o => have := k _ _ hg; rw [h1] at this; cases this
  | r a => exact h
def Fun (prog : Program) (w : World) (K : Frag) (n : Nat) (f : Addr) (xs : List Vl) (z : Vl) : Prop :=
  ∀ A s vs, AOk n A → Amb K s.heap → All2 (fun x v => Vl.Is s.heap x v) xs vs → codeAny (model prog w) A (.call (.ref f) ⟨vs, []⟩) (fun r s' => ∃ v, r = .ok (.ret v) ∧ Ext s s' ∧ z.New s s' v) s

/-- the object at f is a def -/
def isDef (K : Frag) (f : Addr) : Bool := match K.lookup f with
  | some ⟨_, _, .func _, _⟩ => true
  | _ => false
theorem isDef_of {K : Frag} {f : Addr} {h : Heap} (X : K.In h) (e : isDef K f = true) : ∃ o fd, h.get? f = some o ∧ o.data = .func fd := by
  unfold isDef at e
  split at e
  · rename_i q; exact ⟨_, _, X _ _ q, rfl⟩
  · cases e
theorem call_raw {f : Addr} {nm : Str} {a : PySem.Expr} {args : List PySem.Expr} {np pos : Pos} {xs : List Vl} {Q : Value → Shared → Prop} {E : Value → Shared → Prop} (I : Inv c σ γ s) (hg : nsIn c.K mainGlobals nm = some (some (.ref f))) (hk : c.env.kindOf nm = some .globalImplicit)
    (hfn : isDef c.K f = true) (hargs : ExpAll c σ γ (a :: args) xs)
    (h : ∀ vs s₁, Ext s s₁ → All2 (fun x v => Vl.Is s₁.heap x v) xs vs → wpAny c.M c.A (call (.ref f) vs []) Q E s₁)
    (hd : (nm == ("__debug__" : Str)) = false := by decide) : wpAny c.M c.A (eval (.Call (.Name nm np) (a :: args) [] pos) c.env) Q E s := by
  obtain ⟨o, fd, hof, hfd⟩ := isDef_of I.ambH.inK hfn
  refine wpAny_Call_NameR (nameK I hg hk (callWith_function (o := o) (fd := fd) ?_) hd)
  have h0 := hargs.spl (pos := pos) s I
  match xs, hargs with
  | x :: xs, hargs =>
    rw [starEach_cons hargs.1.2, backTo_cons] at h0 ⊢
    refine evalArgs_plain (wpAny_mono h0 (fun vs s₁ ⟨e1, q⟩ => ⟨⟨e1.keep _ _ hof, hfd⟩, h vs s₁ e1 q⟩) fun _ _ x => x.elim)
theorem call_fun {n : Nat} {f : Addr} {nm : Str} {a : PySem.Expr} {args : List PySem.Expr} {np pos : Pos} {xs : List Vl} {z : Vl} (hF : Fun c.prog c.w c.K n f xs z) (hA : AOk n c.A)
    (hg : nsIn c.K mainGlobals nm = some (some (.ref f))) (hk : c.env.kindOf nm = some .globalImplicit) (hfn : isDef c.K f = true) (hargs : ExpAll c σ γ (a :: args) xs) (I : Inv c σ γ s)
    (hd : (nm == ("__debug__" : Str)) = false := by decide) : wpAny c.M c.A (eval (.Call (.Name nm np) (a :: args) [] pos) c.env) (fun v s' => Ext s s' ∧ z.New s s' v) no s :=
  call_raw I hg hk hfn hargs (fun vs s₁ e1 q => wpAny_call (codeAny_mono (hF c.A s₁ vs hA (I.ext e1).ambH q) fun r s' ⟨v, hr, e2, y⟩ => by
    subst hr; exact ⟨e1.trans e2, y.from e1.keep⟩)) hd
theorem Exp.call {n : Nat} {f : Addr} {nm : Str} {a : PySem.Expr} {args : List PySem.Expr} {np pos : Pos} {xs : List Vl} {z : Vl} (hF : Fun c.prog c.w c.K n f xs z) (hA : AOk n c.A)
    (hg : nsIn c.K mainGlobals nm = some (some (.ref f))) (hk : c.env.kindOf nm = some .globalImplicit) (hfn : isDef c.K f = true) (hargs : ExpAll c σ γ (a :: args) xs)
    (hd : (nm == ("__debug__" : Str)) = false := by decide) : Exp c σ γ (.Call (.Name nm np) (a :: args) [] pos) z := fun s I =>
  wpAny_mono (call_fun hF hA hg hk hfn hargs I hd) (fun v s' ⟨e1, y⟩ => ⟨e1, y.is⟩) fun _ _ x => x
theorem ExpF.call {n : Nat} {f : Addr} {nm : Str} {a : PySem.Expr} {args : List PySem.Expr} {np pos : Pos} {xs : List Vl} {ps : List Pt} (hF : Fun c.prog c.w c.K n f xs (.l ps)) (hA : AOk n c.A)
    (hg : nsIn c.K mainGlobals nm = some (some (.ref f))) (hk : c.env.kindOf nm = some .globalImplicit) (hfn : isDef c.K f = true) (hargs : ExpAll c σ γ (a :: args) xs)
    (hd : (nm == ("__debug__" : Str)) = false := by decide) : ExpF c σ γ (.Call (.Name nm np) (a :: args) [] pos) ps := fun s I => call_fun hF hA hg hk hfn hargs I hd

abbrev g0 : Gh := ⟨[], {}⟩
theorem keepT0 {h : Heap} : KeepT ({} : Heap) h := fun a vs ⟨o, ho, _⟩ => by cases ho
theorem all2_lookup {P : Ct → Value → Prop} {x : Str} {ct : Ct} : ∀ {σ : List (Str × Ct)} {b : List (Str × Value)}, All2 (fun (p : Str × Ct) (q : Str × Value) => p.1 = q.1 ∧ P p.2 q.2) σ b → σ.lookup x = some ct → ∃ v, b.lookup x = some v ∧ P ct v
  | [], [], _, h => by cases h
  | (y, d) :: σ, (y', v) :: b, ⟨⟨h1, h2⟩, h3⟩, h => by
    cases h1
    rw [List.lookup_cons] at h ⊢
    cases hy : x == y with
    | true => rw [hy] at h; cases h; exact ⟨v, rfl, h2⟩
    | false => rw [hy] at h; exact all2_lookup h3 h
  | [], _ :: _, h, _ => h.elim
  | _ :: _, [], h, _ => h.elim

/-- the context of a called def without cells -/
abbrev inDef (prog : Program) (w : World) (K : Frag) (A : Around) (s : Shared) (qual : Str) (scope : Scope) (f : Addr) (cdv : Value) : Cx :=
  ⟨prog, w, K, A.deeper (envOf qual scope s.heap.objs.size f cdv), s, envOf qual scope s.heap.objs.size f cdv⟩
theorem enter {prog : Program} {w : World} {K : Frag} {A : Around} {R : Result → Shared → Prop} {name qual : Str} {params : Arguments} {body : List Stmt} {scope : Scope} {dV kV doc pm cdv ct oc : Value} {an od : Option Addr} {osl : Array (Option Value)}
    {f : Addr} {vs : List Value} {binds : List (Str × Value)} {σ₀ : List (Str × Ct)}
    (ho : K.lookup f = some ⟨oc, od, .func (fnOf name qual params body scope dV kV doc pm an cdv ct), osl⟩) (hcd : codeIn K cdv qual = true) (hA : A.depth < recursionLimit) (amb : Amb K s.heap)
    (hb : bindArgs (fnOf name qual params body scope dV kV doc pm an cdv ct) ⟨vs, []⟩ = pure binds) (hloc : ∀ y ∈ binds, scope.names.lookup y.1 = some .local)
    (hσ : All2 (fun (p : Str × Ct) (q : Str × Value) => p.1 = q.1 ∧ p.2.Is s.heap q.2) σ₀ binds.reverse)
    (h : ∀ s₁, Inv (inDef prog w K A s qual scope f cdv) σ₀ g0 s₁ →
      W (inDef prog w K A s qual scope f cdv) body (fun fl s' => R (.ok (.ret (match fl with | .ret v => v | _ => .none))) s')
        (fun e s' => wpAny (model prog w) (A.deeper (envOf qual scope s.heap.objs.size f cdv)) (leaving (envOf qual scope s.heap.objs.size f cdv) e) (fun _ s'' => R (.error e) s'') (fun e' s'' => R (.error e') s'') s') s₁)
    (hco : scope.isCoroutine = false := by rfl) (hgen : scope.isGenerator = false := by rfl) (hk : scope.kind = .function := by rfl)
    (hcell : ∀ x ∈ scope.names, x.2 ≠ .cell := by decide) : codeAny (model prog w) A (.call (.ref f) ⟨vs, []⟩) R s := by
  obtain ⟨p, l, mg, mb, T⟩ := amb.top
  refine codeAny_call_def (fd := fnOf name qual params body scope dV kV doc pm an cdv ct) (body := body) (binds := binds) hA (amb.inK _ _ ho) rfl T.nolimit (codeRec_of amb.inK hcd) rfl (BindsTo.of_eq hb) hcell hloc (fun h₁ hns hk₁ => ?_) hco hgen hk
  refine h _ ⟨amb, hk₁, rfl, ⟨hk, rfl, rfl, Heap.get?_none_of_le (Nat.le_refl _), ⟨_, hns, fun x ct e _ => ?_⟩, fun x c e => (by cases e), fun x y c e => (by cases e), fun x ct e hkx => ?_⟩, fun q hq => (by cases hq), keepT0⟩
  · obtain ⟨v, h1, h2⟩ := all2_lookup (P := fun ct v => Ct.Is s.heap ct v) hσ e
    exact ⟨v, h1, h2.keep hk₁⟩
  · exfalso
    obtain ⟨v, h1, h2⟩ := all2_lookup (P := fun ct v => Ct.Is s.heap ct v) hσ e
    have hm : (x, v) ∈ binds.reverse := by
      have : ∀ l : List (Str × Value), l.lookup x = some v → (x, v) ∈ l := by
        intro l
        induction l with
        | nil => intro h; cases h
        | cons q r ih =>
          intro h
          obtain ⟨y, d⟩ := q
          rw [List.lookup_cons] at h
          cases hy : x == y with
          | true => rw [hy] at h; cases h; rw [beq_iff_eq.mp hy]; exact .head _
          | false => rw [hy] at h; exact .tail _ (ih h)
      exact this _ h1
    have := hloc _ (List.mem_reverse.mp hm)
    have e2 : (envOf qual scope s.heap.objs.size f cdv).kindOf x = some .local := this
    rcases hkx with q | q <;> (rw [e2] at q; cases q)
/-- a def that gives its value, whatever its frame -/
theorem ret_of {s s' : Shared} {z : Vl} {fl : Flow} {R : Result → Shared → Prop} (h : ∃ v, fl = .ret v ∧ Ext s s' ∧ z.New s s' v) :
    (fun r s' => ∃ v, r = Except.ok (Flow.ret v) ∧ Ext s s' ∧ z.New s s' v) (Except.ok (Flow.ret (match fl with | .ret v => v | _ => .none)) : Result) s' := by
  obtain ⟨v, rfl, h⟩ := h
  exact ⟨v, rfl, h⟩
end
end Mine

namespace Mine
section
variable {c : Cx} {σ σ' : List (Str × Ct)} {γ : Gh} {s : Shared} {rest : List Stmt} {Q : Flow → Shared → Prop} {E : Value → Shared → Prop}

abbrev Seen (c : Cx) (x : Str) : Prop := (c.env.kindOf x == some .local || c.env.kindOf x == some .cell || c.env.kindOf x == some .free) = true
theorem var_raw {x : Str} {pos : Pos} {ct : Ct} {Q : Value → Shared → Prop} {E : Value → Shared → Prop} (I : Inv c σ γ s) (h : σ.lookup x = some ct) (hk : Seen c x) (k : ∀ v, ct.Is s.heap v → Q v s)
    (hd : (x == ("__debug__" : Str)) = false := by decide) (hcd : (x == ("__classdict__" : Str)) = false := by decide) : wpAny c.M c.A (eval (.Name x pos) c.env) Q E s := by
  have hk' : c.env.kindOf x = some .local ∨ c.env.kindOf x = some .cell ∨ c.env.kindOf x = some .free := by
    simp only [Seen, Bool.or_eq_true, beq_iff_eq] at hk
    rcases hk with (h1 | h1) | h1 <;> simp [h1]
  rcases hk' with hk | hk | hk
  · obtain ⟨m, hn, hm⟩ := I.frm.loc
    obtain ⟨v, hv, y⟩ := hm x ct h hk
    exact wpAny_Name (wpAny_loadName_local I.frm.kind hk hn hv (k v y)) hd
  · obtain ⟨a, v, e1, e2, e3⟩ := I.frm.cv x ct h (.inl hk)
    exact wpAny_Name (wpAny_loadName_cell I.frm.kind hk e1 e2 (k v e3)) hd
  · obtain ⟨a, v, e1, e2, e3⟩ := I.frm.cv x ct h (.inr hk)
    exact wpAny_Name (wpAny_loadName_free I.frm.kind hk e1 e2 (k v e3) hcd) hd

/-! ## methods of built-in types -/
/-- o.name(e), the built-in then called upon both values -/
theorem meth1_raw {o e : PySem.Expr} {name : Str} {apos pos : Pos} {T id : String} {Q : Value → Shared → Prop} {E : Value → Shared → Prop}
    (pa : PlainAttrs T) (slot : Slot T name id) (hty : typeOf (.builtin id) = pure (.type "method_descriptor"))
    (h : wpAny c.M c.A (eval o c.env) (fun ov s₁ => s₁.TypeIs ov T ∧ (∀ a, ov = .ref a → ∃ ob, s₁.heap.get? a = some ob ∧ ob.dict = none) ∧ wpAny c.M c.A (eval e c.env) (fun v s₂ => wpAny c.M c.A (call (.builtin id) [ov, v]) Q E s₂) E s₁) E s)
    (hs : isStarred e = false := by rfl) (hbase : attributeBase o name c.env (eval o c.env) = eval o c.env := by rfl) (hline : (apos.endLine == pos.line) = true := by rfl) :
    wpAny c.M c.A (eval (.Call (.Attribute o name apos) [e] [] pos) c.env) Q E s := by
  refine wpAny_Call_method hbase (by rw [starEach_cons hs]; rfl) hline pa slot hty (wpAny_mono h (fun ov s₁ ⟨h1, h2, h3⟩ => ⟨h1, h2, ?_⟩) fun _ _ x => x)
  rw [starEach_cons hs]
  exact callWith_builtin rfl (evalArgs_plain (spliced_cons (wpAny_mono h3 (fun v s₂ h4 => spliced_nil h4) fun _ _ x => x)))

/-! lists change: append, extend -/
theorem Inv.list {x : Str} {a : Addr} {ps : List Pt} (I : Inv c σ γ s) (hx : σ.lookup x = some (.l a ps)) (hk : Seen c x) : Lst s.heap a ps := by
  have hk' : c.env.kindOf x = some .local ∨ c.env.kindOf x = some .cell ∨ c.env.kindOf x = some .free := by
    simp only [Seen, Bool.or_eq_true, beq_iff_eq] at hk
    rcases hk with (h1 | h1) | h1 <;> simp [h1]
  rcases hk' with hk | hk | hk
  · obtain ⟨m, hn, hm⟩ := I.frm.loc
    obtain ⟨v, hv, y⟩ := hm x _ hx hk
    exact y.2
  · obtain ⟨_, v, e1, e2, e3⟩ := I.frm.cv x _ hx (.inl hk)
    exact e3.2
  · obtain ⟨_, v, e1, e2, e3⟩ := I.frm.cv x _ hx (.inr hk)
    exact e3.2
theorem Lst.typeIs {a : Addr} {ps : List Pt} (h : Lst s.heap a ps) : s.TypeIs (.ref a) "list" := by obtain ⟨vs, ⟨n, e⟩, _⟩ := h; exact ⟨_, e, rfl⟩
theorem Lst.noDict {a b : Addr} {ps : List Pt} (h : Lst s.heap a ps) (e : Value.ref a = Value.ref b) : ∃ ob, s.heap.get? b = some ob ∧ ob.dict = none := by
  cases e; obtain ⟨vs, ⟨n, e⟩, _⟩ := h; exact ⟨_, e, rfl⟩

theorem W.append {x : Str} {e : PySem.Expr} {px apos pos spos : Pos} {a : Addr} {ps : List Pt} {p : Pt} (I : Inv c σ γ s) (hx : σ.lookup x = some (.l a ps)) (hk : Seen c x)
    (he : Exp c σ γ e (.p p)) (hB : c.B.heap.get? a = none) (hγ : ∀ q ∈ γ.objs, q.1 ≠ a) (hsz : ps.length ≤ 2 ^ 20) (k : ∀ s', Inv c (updL a (ps ++ [p]) σ) γ s' → W c rest Q E s')
    (hs : isStarred e = false := by rfl) (hline : (apos.endLine == pos.line) = true := by rfl) (hi : interactive c.env = false := by rfl)
    (hd : (x == ("__debug__" : Str)) = false := by decide) (hcd : (x == ("__classdict__" : Str)) = false := by decide) :
    W c (.Expr (.Call (.Attribute (.Name x px) "append" apos) [e] [] pos) spos :: rest) Q E s := by
  refine wpAny_execs_cons (wpAny_Expr_any ?_ hi)
  refine meth1_raw (c := c) F.plainAttrs_list F.slot_list_append F.type_list_append (var_raw I hx hk (fun v q => ?_) hd hcd) hs rfl hline
  obtain ⟨rfl, hL⟩ := q
  refine ⟨hL.typeIs, fun b e => hL.noDict e, wpAny_mono (he s I) (fun v s₁ ⟨e1, q⟩ => ?_) fun _ _ x => x.elim⟩
  have hL1 := hL.keep e1.keep
  obtain ⟨vs, hpl, qs⟩ := id hL1
  obtain ⟨n, e⟩ := id hpl
  have hlen := qs.length
  refine wpAny_list_append_plain hpl (fun h' hp hsb => k _ ?_) (by simp only [List.size_toArray]; unfold sizeLine; omega)
  have kb : KeepBut a s₁.heap h' := fun b o hb e => (hsb.2 b hb).trans e
  have nt : NoTup ({ cls := .type "list", data := .seq vs.toArray n } : Obj) := .inl (by simp)
  exact (I.ext e1).lst (tk := s₁.toks) hL1 hB hγ kb ⟨vs ++ [v], by simpa using hp, (qs.mono fun _ _ z => z.but e nt kb).append ⟨Pt.Is.but (p := p) q e nt kb, trivial⟩⟩

/-- x.extend(e), e a list that is not x's own -/
theorem extend_raw {x : Str} {e : PySem.Expr} {px apos pos : Pos} {a : Addr} {ps qs : List Pt} {Q : Value → Shared → Prop} {E : Value → Shared → Prop} (I : Inv c σ γ s) (hx : σ.lookup x = some (.l a ps)) (hk : Seen c x)
    (he : wpAny c.M c.A (eval e c.env) (fun v s₁ => Inv c σ γ s₁ ∧ ∃ b, v = .ref b ∧ b ≠ a ∧ Lst s₁.heap b qs) E s)
    (hB : c.B.heap.get? a = none) (hγ : ∀ q ∈ γ.objs, q.1 ≠ a) (hsz : ps.length + qs.length ≤ 2 ^ 20) (k : ∀ v s', Inv c (updL a (ps ++ qs) σ) γ s' → Q v s')
    (hs : isStarred e = false := by rfl) (hline : (apos.endLine == pos.line) = true := by rfl)
    (hd : (x == ("__debug__" : Str)) = false := by decide) (hcd : (x == ("__classdict__" : Str)) = false := by decide) :
    wpAny c.M c.A (eval (.Call (.Attribute (.Name x px) "extend" apos) [e] [] pos) c.env) Q E s := by
  refine meth1_raw (c := c) F.plainAttrs_list F.slot_list_extend F.type_list_extend (var_raw I hx hk (fun v q => ?_) hd hcd) hs rfl hline
  obtain ⟨rfl, hL⟩ := q
  refine ⟨hL.typeIs, fun b e => hL.noDict e, wpAny_mono he (fun v s₁ ⟨I1, b, q1, hne, q2⟩ => ?_) fun _ _ x => x⟩
  subst q1
  have hL1 := I1.list hx hk
  obtain ⟨vs, hpl, q3⟩ := id hL1
  obtain ⟨n, e⟩ := id hpl
  obtain ⟨ws, hpl2, q4⟩ := id q2
  obtain ⟨n2, e2⟩ := id hpl2
  have hl3 := q3.length
  have hl4 := q4.length
  have hsz' : vs.toArray.size + ws.toArray.size ≤ sizeLine := by simp only [List.size_toArray]; unfold sizeLine; omega
  refine call_meets PySem.F.slot_list_extend ⟨_, e, rfl⟩ PySem.F.entry_list_extend (PySem.F.args_list_extend_2 _ _) (AutoSeq1.list_extend_list_list_0 a vs.toArray n b ws.toArray n2 (extend_door hsz') (Nat.le_trans (Nat.le_add_right _ _) hsz')) ⟨e, e2, k _ _ ?_⟩
  have kb : KeepBut a s₁.heap (s₁.heap.update a (Obj.mapSeq fun x => x ++ ws.toArray)) := fun b' o hb e => (Heap.get?_update_other _ _ (Ne.symm hb)).trans e
  have nt : NoTup ({ cls := .type "list", data := .seq vs.toArray n } : Obj) := .inl (by simp)
  have ho' : (s₁.heap.update a (Obj.mapSeq fun x => x ++ ws.toArray)).get? a = some { cls := .type "list", data := .seq (vs ++ ws).toArray (if (vs.toArray ++ ws.toArray).size == vs.toArray.size then n else n + 1) } := by
    rw [Heap.get?_update_self _ e rfl]
    simp [Obj.mapSeq]
  exact I1.lst (tk := s₁.toks) hL1 hB hγ kb ⟨vs ++ ws, ⟨_, ho'⟩, (q3.mono fun _ _ z => z.but e nt kb).append (q4.mono fun _ _ z => z.but e nt kb)⟩
theorem W.extend {x : Str} {e : PySem.Expr} {px apos pos spos : Pos} {a : Addr} {ps qs : List Pt} (I : Inv c σ γ s) (hx : σ.lookup x = some (.l a ps)) (hk : Seen c x)
    (he : ExpF c σ γ e qs) (hB : c.B.heap.get? a = none) (hγ : ∀ q ∈ γ.objs, q.1 ≠ a) (hsz : ps.length + qs.length ≤ 2 ^ 20) (k : ∀ s', Inv c (updL a (ps ++ qs) σ) γ s' → W c rest Q E s')
    (hs : isStarred e = false := by rfl) (hline : (apos.endLine == pos.line) = true := by rfl) (hi : interactive c.env = false := by rfl)
    (hd : (x == ("__debug__" : Str)) = false := by decide) (hcd : (x == ("__classdict__" : Str)) = false := by decide) :
    W c (.Expr (.Call (.Attribute (.Name x px) "extend" apos) [e] [] pos) spos :: rest) Q E s := by
  refine wpAny_execs_cons (wpAny_Expr_any ?_ hi)
  refine extend_raw I hx hk (wpAny_mono (he s I) (fun v s₁ ⟨e1, b, q1, q2, q3⟩ => ⟨I.ext e1, b, q1, ?_, q3⟩) fun _ _ x => x.elim) hB hγ hsz (fun v s' I' => k s' I') hs hline hd hcd
  rintro rfl
  obtain ⟨vs, ⟨n, e⟩, _⟩ := I.list hx hk
  rw [q2] at e; cases e

/-! texts -/
theorem strsAre_of {h : Heap} : ∀ {ys : List Str} {vs : List Value}, All2 (Pt.Is h) (ys.map pS) vs → StrsAre vs ys
  | [], [], _ => .nil
  | y :: ys, v :: vs, ⟨⟨t, e⟩, r⟩ => by subst e; exact .cons y t (strsAre_of r)
  | [], _ :: _, h => h.elim
  | _ :: _, [], h => h.elim
theorem Exp.join {o e : PySem.Expr} {apos pos : Pos} {x : Str} {ys : List Str} (ho : Exp c σ γ o (vS x)) (he : Exp c σ γ e (.l (ys.map pS))) (hsep : x.length ≤ 16) (hw : (ys.map (·.length)).sum + ys.length ≤ 1048576)
    (hs : isStarred e = false := by rfl) (hbase : attributeBase o "join" c.env (eval o c.env) = eval o c.env := by rfl) (hline : (apos.endLine == pos.line) = true := by rfl) :
    Exp c σ γ (.Call (.Attribute o "join" apos) [e] [] pos) (vS (Txt.join x ys)) := fun s I => by
  refine meth1_raw (c := c) F.plainAttrs_str F.slot_str_join F.type_str_join (wpAny_mono (ho s I) (fun ov s₁ ⟨e1, t, q⟩ => ?_) fun _ _ x => x) hs hbase hline
  subst q
  refine ⟨typeIs_str _ _ _, (fun a e => by cases e), wpAny_mono (he s₁ (I.ext e1)) (fun v s₂ ⟨e2, a, q1, vs, ⟨n, e3⟩, q2⟩ => ?_) fun _ _ x => x⟩
  subst q1
  exact join_listW ⟨_, e3, rfl, n, rfl⟩ (strsAre_of q2) hsep hw fun t' k => ⟨(e1.trans e2).trans .toks, _, rfl⟩
theorem Exp.index {o e : PySem.Expr} {apos pos : Pos} {x y : Str} (hh : c.A.handled = none) (ho : Exp c σ γ o (vS x)) (he : Exp c σ γ e (vS y)) (hf : 0 ≤ Txt.find x y)
    (hs : isStarred e = false := by rfl) (hbase : attributeBase o "index" c.env (eval o c.env) = eval o c.env := by rfl) (hline : (apos.endLine == pos.line) = true := by rfl) :
    Exp c σ γ (.Call (.Attribute o "index" apos) [e] [] pos) (vI (Txt.find x y)) := fun s I => by
  refine meth1_raw (c := c) F.plainAttrs_str F.slot_str_index F.type_str_index (wpAny_mono (ho s I) (fun ov s₁ ⟨e1, t, q⟩ => ?_) fun _ _ x => x) hs hbase hline
  subst q
  refine ⟨typeIs_str _ _ _, (fun a e => by cases e), wpAny_mono (he s₁ (I.ext e1)) (fun v s₂ ⟨e2, u, q⟩ => ?_) fun _ _ x => x⟩
  subst q
  exact index_or hh (fun h _ => by omega) fun _ _ => ⟨(e1.trans e2).trans .toks, _, rfl⟩
/-- over the signs of a text -/
theorem Src.str {iter : PySem.Expr} {x : Str} (hh : c.A.handled = none) (h : Exp c σ γ iter (vS x)) : Src c σ γ iter (x.cps.toList.map fun d => pS ⟨#[d]⟩) (fun _ _ => False) := fun s I =>
  wpAny_mono (h s I) (fun v s₁ ⟨e1, t, q⟩ => by
    subst q
    have aux : ∀ cls, (∀ A' : Around, A'.handled = none → Walks c.prog c.w A' s₁.heap.objs.size [s₁.heap.objs.size] [s₁.heap.objs.size] x.cps.size (SignAt x) (fun i h => h.IsStrIter s₁.heap.objs.size cls x t i)) →
        Ext s { s₁ with heap := s₁.heap.push { cls := .type cls, data := .fields #[.str x t, .int 0 0] } } ∧ ∃ I fr P St, SrcAt c s { s₁ with heap := s₁.heap.push { cls := .type cls, data := .fields #[.str x t, .int 0 0] } } (.ref s₁.heap.objs.size) (x.cps.toList.map fun d => pS ⟨#[d]⟩) (fun _ => False) I fr P St := by
      intro cls Wk
      have Wk := Wk c.A hh
      rw [show x.cps.size = (x.cps.toList.map fun d => pS ⟨#[d]⟩).length by simp] at Wk
      refine ⟨e1.trans .push, s₁.heap.objs.size, [], _, _, ⟨rfl, Wk, ⟨_, Heap.get?_push_size _ rfl, rfl, rfl⟩, none_of_size e1.keep, ?_, ?_, ?_, ?_⟩⟩
      · rintro i h ⟨o, ho, _, hd⟩; exact ⟨o, _, ho, hd⟩
      · rintro i v ⟨d, u, hd, rfl⟩ h kt
        exact ⟨pS ⟨#[d]⟩, by simp [hd], u, rfl⟩
      · intro b hb; cases hb
      · intro i h st b hb; cases hb
    cases ha : x.cps.all (· < 128)
    · exact wpAny_pyIter_wide ha (aux _ fun A' hA => Walks.strWide hA _ x t)
    · exact wpAny_pyIter_ascii ha (aux _ fun A' hA => Walks.strAscii hA _ x t)) fun _ _ x => x
end
end Mine

namespace Mine

/-! ## equality -/
def At.py : At → PyData
  | .none => .none
  | .bool b => .bool b
  | .int i => .int i
  | .str x => .str x
def Pt.py : Pt → PyData
  | .a x => x.py
  | .t l => .tuple (l.map At.py)
def At.ok : At → Bool
  | .str x => PyData.strOk x
  | _ => true
def Pt.ok : Pt → Bool
  | .a x => x.ok
  | .t l => l.all At.ok
theorem At.reads {h : Heap} {x : At} {v : Value} (y : x.Is v) : Reads h v x.py [] := by
  cases x with
  | none => cases y; exact .none
  | bool b => cases y; exact .bool b
  | int i => obtain ⟨t, rfl⟩ := y; exact .int i t
  | str x => obtain ⟨t, rfl⟩ := y; exact .str x t
theorem At.readsAll {h : Heap} : ∀ {l : List At} {vs : List Value}, All2 At.Is l vs → ReadsAll h vs (l.map At.py) []
  | [], [], _ => .nil
  | _ :: _, _ :: _, ⟨y, r⟩ => .cons (as := []) (bs := []) (At.reads y) (At.readsAll r)
  | [], _ :: _, h => h.elim
  | _ :: _, [], h => h.elim
theorem Pt.reads {h : Heap} {p : Pt} {v : Value} (y : p.Is h v) : ∃ as, Reads h v p.py as := by
  cases p with
  | a x => exact ⟨_, At.reads y⟩
  | t l => obtain ⟨a, vs, rfl, ⟨o, ho, hc, n, hd⟩, q⟩ := y; exact ⟨[], .tuple ho hc hd (At.readsAll q)⟩
theorem Pt.readsAll {h : Heap} : ∀ {l : List Pt} {vs : List Value}, All2 (Pt.Is h) l vs → ∃ as, ReadsAll h vs (l.map Pt.py) as
  | [], [], _ => ⟨_, .nil⟩
  | _ :: _, _ :: _, ⟨y, r⟩ => let ⟨_, r1⟩ := Pt.reads y; let ⟨_, r2⟩ := Pt.readsAll r; ⟨_, .cons r1 r2⟩
  | [], _ :: _, h => h.elim
  | _ :: _, [], h => h.elim
theorem At.lay {x : At} (h : x.ok = true) : x.py.canLay0 = true ∧ x.py.depth = 0 := by
  cases x <;> simp_all [At.py, At.ok, PyData.canLay0, PyData.depth]
theorem At.layAll : ∀ {l : List At}, l.all At.ok = true → PyData.canLayAll0 (l.map At.py) = true ∧ PyData.depthAll (l.map At.py) = 0
  | [], _ => by simp [PyData.canLayAll0, PyData.depthAll]
  | x :: l, h => by
    simp only [List.all_cons, Bool.and_eq_true] at h
    have h1 := At.lay h.1
    have h2 := At.layAll h.2
    simp [PyData.canLayAll0, PyData.depthAll, h1.1, h1.2, h2.1, h2.2]
theorem Pt.lay {p : Pt} (h : p.ok = true) : p.py.canLay0 = true ∧ p.py.depth ≤ 1 := by
  cases p with
  | a x => have := At.lay h; exact ⟨this.1, by rw [show (Pt.a x).py = x.py from rfl, this.2]; omega⟩
  | t l => have := At.layAll h; simp [Pt.py, PyData.canLay0, PyData.depth, this.1, this.2]
theorem Pt.layAll : ∀ {l : List Pt}, l.all Pt.ok = true → PyData.canLayAll0 (l.map Pt.py) = true ∧ PyData.depthAll (l.map Pt.py) ≤ 1
  | [], _ => by simp [PyData.canLayAll0, PyData.depthAll]
  | x :: l, h => by
    simp only [List.all_cons, Bool.and_eq_true] at h
    have h1 := Pt.lay h.1
    have h2 := Pt.layAll h.2
    simp only [List.map_cons, PyData.canLayAll0, PyData.depthAll, h1.1, h2.1]
    exact ⟨rfl, Nat.max_le.mpr ⟨h1.2, h2.2⟩⟩
theorem Lst.reads {h : Heap} {a : Addr} {ps : List Pt} (y : Lst h a ps) : ∃ as, Reads h (.ref a) (.list (ps.map Pt.py)) as := by
  obtain ⟨vs, ⟨n, e⟩, q⟩ := y
  obtain ⟨as, r⟩ := Pt.readsAll q
  exact ⟨_, .list e rfl rfl r⟩
theorem Lst.shaped {ps : List Pt} (h : ps.all Pt.ok = true) : SeqAt.shaped (.list (ps.map Pt.py)) = true := by
  have := Pt.layAll h
  simp [SeqAt.shaped, PyData.canLay0, PyData.depth, this.1]
  omega

section
variable {c : Cx} {σ σ' : List (Str × Ct)} {γ : Gh} {s : Shared} {rest : List Stmt} {Q : Flow → Shared → Prop} {E : Value → Shared → Prop}
theorem Cmp.neL {n : Nat} {ps : List Pt} (hA : AOk n c.A) (h : ps.all Pt.ok = true) : Cmp c σ γ .NotEq (.l ps) (.l ps) false := fun s a b I ⟨a', q1, y1⟩ ⟨b', q2, y2⟩ => by
  subst q1 q2
  obtain ⟨_, r1⟩ := y1.reads
  obtain ⟨_, r2⟩ := y2.reads
  refine ne_dataH r1 r2 (Lst.shaped h) (Lst.shaped h) (by have := hA.units; unfold cLine; omega) ⟨.rfl', ?_⟩
  rw [SeqAt.eqv_refl _ (SeqAt.canLay_of_shaped (Lst.shaped h))]; rfl
theorem Cmp.eqL {n : Nat} {ps : List Pt} (hA : AOk n c.A) (h : ps.all Pt.ok = true) : Cmp c σ γ .Eq (.l ps) (.l ps) true := fun s a b I ⟨a', q1, y1⟩ ⟨b', q2, y2⟩ => by
  subst q1 q2
  obtain ⟨_, r1⟩ := y1.reads
  obtain ⟨_, r2⟩ := y2.reads
  refine eq_dataH r1 r2 (Lst.shaped h) (Lst.shaped h) (by have := hA.units; unfold cLine; omega) ⟨.rfl', ?_⟩
  rw [SeqAt.eqv_refl _ (SeqAt.canLay_of_shaped (Lst.shaped h))]
/-- an int in a list of ints -/
theorem intsAre_of {h : Heap} : ∀ {ns : List Int} {vs : List Value}, All2 (Pt.Is h) (ns.map pI) vs → IntsAre vs ns
  | [], [], _ => .nil
  | y :: ys, v :: vs, ⟨⟨t, e⟩, r⟩ => by subst e; exact .cons y t (intsAre_of r)
  | [], _ :: _, h => h.elim
  | _ :: _, [], h => h.elim
theorem Cmp.inI {k : Int} {ns : List Int} : Cmp c σ γ .In (vI k) (.l (ns.map pI)) (ns.any (· == k)) := fun s a b I ⟨t, q1⟩ ⟨b', q2, vs, ⟨n, e⟩, q⟩ => by
  subst q1 q2
  exact in_list_ints ⟨_, e, rfl, n, rfl⟩ (intsAre_of q) ⟨.rfl', rfl⟩

/-! ## built-in functions -/
theorem bcall1_raw {nm : Str} {id : String} {e : PySem.Expr} {np pos : Pos} {x : Vl} {Q : Value → Shared → Prop} {E : Value → Shared → Prop} (I : Inv c σ γ s) (hb : nsIn c.K mainGlobals nm = some none) (hv : bootBuiltins nm = some (.builtin id))
    (hk : c.env.kindOf nm = some .globalImplicit) (he : Exp c σ γ e x) (h : ∀ v s₁, Ext s s₁ → x.Is s₁.heap v → wpAny c.M c.A (call (.builtin id) [v]) Q E s₁)
    (hs : isStarred e = false) (hn : nm ≠ "__name__" := by decide) (hd : (nm == ("__debug__" : Str)) = false := by decide) : wpAny c.M c.A (eval (.Call (.Name nm np) [e] [] pos) c.env) Q E s := by
  refine wpAny_Call_NameR (nameB I hb hv hk ?_ hn hd)
  rw [starEach_cons hs]
  exact callWith_builtin rfl (evalArgs_plain (spliced_cons (wpAny_mono (he s I) (fun v s₁ ⟨e1, q⟩ => spliced_nil (h v s₁ e1 q)) fun _ _ x => x.elim)))
theorem Exp.lenL {e : PySem.Expr} {np pos : Pos} {ps : List Pt} (he : Exp c σ γ e (.l ps)) (hsz : ps.length ≤ 2 ^ 30) (hb : nsIn c.K mainGlobals "len" = some none := by rfl) (hk : c.env.kindOf "len" = some .globalImplicit := by rfl)
    (hs : isStarred e = false := by rfl) : Exp c σ γ (.Call (.Name "len" np) [e] [] pos) (vI ps.length) := fun s I =>
  bcall1_raw (id := "len") I hb (by decide +kernel) hk he (fun v s₁ e1 ⟨a, q1, vs, ⟨n, e⟩, q⟩ => by
    subst q1
    refine len_list (items := vs.toArray) ⟨_, e, rfl, n, rfl⟩ (by simp only [List.size_toArray, ← q.length]; omega) ⟨e1.trans .toks, s₁.toks + 1, ?_⟩
    rw [List.size_toArray, q.length]) hs
theorem Exp.lenS {e : PySem.Expr} {np pos : Pos} {x : Str} (he : Exp c σ γ e (vS x)) (hsz : x.length ≤ 2 ^ 30) (hb : nsIn c.K mainGlobals "len" = some none := by rfl) (hk : c.env.kindOf "len" = some .globalImplicit := by rfl)
    (hs : isStarred e = false := by rfl) : Exp c σ γ (.Call (.Name "len" np) [e] [] pos) (vI x.length) := fun s I =>
  bcall1_raw (id := "len") I hb (by decide +kernel) hk he (fun v s₁ e1 ⟨t, q⟩ => by
    subst q
    exact len_str (by omega) ⟨e1.trans .toks, _, rfl⟩) hs
theorem Exp.abs {e : PySem.Expr} {np pos : Pos} {i : Int} (he : Exp c σ γ e (vI i)) (hb : nsIn c.K mainGlobals "abs" = some none := by rfl) (hk : c.env.kindOf "abs" = some .globalImplicit := by rfl)
    (hs : isStarred e = false := by rfl) : Exp c σ γ (.Call (.Name "abs" np) [e] [] pos) (vI (if i < 0 then -i else i)) := fun s I =>
  bcall1_raw (id := "abs") I hb (by decide +kernel) hk he (fun v s₁ e1 ⟨t, q⟩ => by
    subst q
    exact call_abs_int fun u tk => ⟨e1.trans .toks, _, rfl⟩) hs
/-- isinstance(e, T) -/
theorem isi_raw {e : PySem.Expr} {T : Str} {TT : String} {np tp pos : Pos} {x : Vl} {b : Bool} (he : Exp c σ γ e x) (hT : bootBuiltins T = some (.type TT)) (hbT : nsIn c.K mainGlobals T = some none) (hkT : c.env.kindOf T = some .globalImplicit)
    (h : ∀ s v, x.Is s.heap v → wpAny c.M c.A (call (.builtin "isinstance") [v, .type TT]) (fun r s' => Ext s s' ∧ r = .bool b) no s)
    (hb : nsIn c.K mainGlobals "isinstance" = some none) (hk : c.env.kindOf "isinstance" = some .globalImplicit)
    (hs : isStarred e = false) (hn : T ≠ "__name__" := by decide) (hd : (T == ("__debug__" : Str)) = false := by decide) : Exp c σ γ (.Call (.Name "isinstance" np) [e, .Name T tp] [] pos) (vB b) := fun s I => by
  refine wpAny_Call_NameR (nameB I hb (v := .builtin "isinstance") (by decide +kernel) hk ?_)
  rw [starEach_cons hs, starEach_cons rfl]
  refine callWith_builtin rfl (evalArgs_plain (spliced_cons (wpAny_mono (he s I) (fun v s₁ ⟨e1, q⟩ => spliced_cons (nameB (I.ext e1) hbT hT hkT (spliced_nil ?_) hn hd)) fun _ _ x => x.elim)))
  exact wpAny_mono (h s₁ v q) (fun r s' ⟨e2, q2⟩ => by subst q2; exact ⟨e1.trans e2, rfl⟩) fun _ _ x => x
theorem Exp.isiIntBool {e : PySem.Expr} {np tp pos : Pos} {i : Int} (he : Exp c σ γ e (vI i)) (hbT : nsIn c.K mainGlobals "bool" = some none := by rfl) (hkT : c.env.kindOf "bool" = some .globalImplicit := by rfl)
    (hb : nsIn c.K mainGlobals "isinstance" = some none := by rfl) (hk : c.env.kindOf "isinstance" = some .globalImplicit := by rfl) (hs : isStarred e = false := by rfl) :
    Exp c σ γ (.Call (.Name "isinstance" np) [e, .Name "bool" tp] [] pos) (vB false) :=
  isi_raw he (TT := "bool") (by decide +kernel) hbT hkT (fun s v ⟨t, q⟩ => by
    subst q
    exact call_isinstance (isinstance_false_int (by decide) (by rfl) (isSubtype_of_subB (by decide +kernel))) ⟨.toks, rfl⟩) hb hk hs
theorem Exp.isiIntInt {e : PySem.Expr} {np tp pos : Pos} {i : Int} (he : Exp c σ γ e (vI i)) (hbT : nsIn c.K mainGlobals "int" = some none := by rfl) (hkT : c.env.kindOf "int" = some .globalImplicit := by rfl)
    (hb : nsIn c.K mainGlobals "isinstance" = some none := by rfl) (hk : c.env.kindOf "isinstance" = some .globalImplicit := by rfl) (hs : isStarred e = false := by rfl) :
    Exp c σ γ (.Call (.Name "isinstance" np) [e, .Name "int" tp] [] pos) (vB true) :=
  isi_raw he (TT := "int") (by decide +kernel) hbT hkT (fun s v ⟨t, q⟩ => by
    subst q
    exact PyProof.Rows.call_isinstance_yes (typeIs_int _ _ _) (by rfl) (isSubtype_of_subB (by decide +kernel)) ⟨.rfl', rfl⟩) hb hk hs
theorem Exp.isiBoolBool {e : PySem.Expr} {np tp pos : Pos} {i : Bool} (he : Exp c σ γ e (vB i)) (hbT : nsIn c.K mainGlobals "bool" = some none := by rfl) (hkT : c.env.kindOf "bool" = some .globalImplicit := by rfl)
    (hb : nsIn c.K mainGlobals "isinstance" = some none := by rfl) (hk : c.env.kindOf "isinstance" = some .globalImplicit := by rfl) (hs : isStarred e = false := by rfl) :
    Exp c σ γ (.Call (.Name "isinstance" np) [e, .Name "bool" tp] [] pos) (vB true) :=
  isi_raw he (TT := "bool") (by decide +kernel) hbT hkT (fun s v q => by
    cases q
    exact PyProof.Rows.call_isinstance_yes (PySem.typeIs_bool _ _) (by rfl) (isSubtype_of_subB (by decide +kernel)) ⟨.rfl', rfl⟩) hb hk hs

/-! ## tests and choices -/
theorem Tst.val {e : PySem.Expr} {b : Bool} (h : Exp c σ γ e (vB b)) (he : ∀ whole, isTrue e c.env whole = (do let v ← whole; standAt e.pos; holding [v] (truthy v)) := by intro _; rfl) : Tst c σ γ e b := fun s I =>
  wpAny_isTrue_value (wpAny_mono (h s I) (fun v s' ⟨e1, q⟩ => by cases q; exact wpAny_truthy_bool ⟨e1, rfl⟩) fun _ _ x => x) (he _)
/-- all (any) of the tests, the later ones asked only where they are reached -/
theorem Tst.and2 {x y : PySem.Expr} {pos : Pos} {a b : Bool} (h1 : Tst c σ γ x a) (h2 : a = true → Tst c σ γ y b) : Tst c σ γ (.BoolOp .And [x, y] pos) (a && b) := fun s I =>
  wpAny_isTrue_BoolOp (wpAny_allTrue_And_cons (wpAny_mono (h1 s I) (fun r s' ⟨e1, q⟩ => by
    subst q
    cases r with
    | false => exact ⟨e1, rfl⟩
    | true => exact wpAny_allTrue_And_cons (wpAny_mono (h2 rfl s' (I.ext e1)) (fun r s'' ⟨e2, q⟩ => by
        subst q
        cases r with
        | false => exact ⟨e1.trans e2, rfl⟩
        | true => exact wpAny_allTrue_And_nil ⟨e1.trans e2, rfl⟩) fun _ _ x => x)) fun _ _ x => x))
theorem Tst.or2 {x y : PySem.Expr} {pos : Pos} {a b : Bool} (h1 : Tst c σ γ x a) (h2 : a = false → Tst c σ γ y b) : Tst c σ γ (.BoolOp .Or [x, y] pos) (a || b) := fun s I =>
  wpAny_isTrue_BoolOp (wpAny_allTrue_Or_cons (wpAny_mono (h1 s I) (fun r s' ⟨e1, q⟩ => by
    subst q
    cases r with
    | true => exact ⟨e1, rfl⟩
    | false => exact wpAny_allTrue_Or_cons (wpAny_mono (h2 rfl s' (I.ext e1)) (fun r s'' ⟨e2, q⟩ => by
        subst q
        cases r with
        | true => exact ⟨e1.trans e2, rfl⟩
        | false => exact wpAny_allTrue_Or_nil ⟨e1.trans e2, rfl⟩) fun _ _ x => x)) fun _ _ x => x))
theorem Exp.and2 {x y : PySem.Expr} {pos : Pos} {a b : Bool} (h1 : Exp c σ γ x (vB a)) (h2 : a = true → Exp c σ γ y (vB b)) : Exp c σ γ (.BoolOp .And [x, y] pos) (vB (a && b)) := fun s I =>
  wpAny_And2 (wpAny_mono (h1 s I) (fun v s' ⟨e1, q⟩ => by
    cases q
    refine wpAny_truthy_bool ?_
    cases a with
    | false => exact ⟨e1, rfl⟩
    | true => exact wpAny_mono (h2 rfl s' (I.ext e1)) (fun r s'' ⟨e2, q⟩ => ⟨e1.trans e2, q⟩) fun _ _ x => x) fun _ _ x => x)
theorem Exp.ite {t x y : PySem.Expr} {pos : Pos} {b : Bool} {z : Vl} (h : Tst c σ γ t b) (h1 : b = true → Exp c σ γ x z) (h2 : b = false → Exp c σ γ y z) : Exp c σ γ (.IfExp t x y pos) z := fun s I =>
  IfExp_ (wpAny_mono (h s I) (fun r s' ⟨e1, q⟩ => by
    subst q
    cases r with
    | true => exact wpAny_mono (h1 rfl s' (I.ext e1)) (fun v s'' ⟨e2, q⟩ => ⟨e1.trans e2, q⟩) fun _ _ x => x
    | false => exact wpAny_mono (h2 rfl s' (I.ext e1)) (fun v s'' ⟨e2, q⟩ => ⟨e1.trans e2, q⟩) fun _ _ x => x) fun _ _ x => x)
theorem Exp.not {e : PySem.Expr} {pos : Pos} {b : Bool} (h : Exp c σ γ e (vB b)) : Exp c σ γ (.UnaryOp .Not e pos) (vB (!b)) := fun s I =>
  wpAny_UnaryOp (wpAny_mono (h s I) (fun v s' ⟨e1, q⟩ => by cases q; exact not_of (wpAny_truthy_bool ⟨e1, rfl⟩)) fun _ _ x => x)
end
end Mine

namespace Mine
section
variable {c : Cx} {σ σ' : List (Str × Ct)} {γ : Gh} {s : Shared} {rest : List Stmt} {Q : Flow → Shared → Prop} {E : Value → Shared → Prop}

/-! ## a tuple laid apart -/
def pushAll : List (Str × Pos) → List At → List (Str × Ct) → List (Str × Ct)
  | (x, _) :: xs, a :: as, σ => pushAll xs as ((x, .p (.a a)) :: σ)
  | _, _, σ => σ
theorem assignNames {Q : Unit → Shared → Prop} {E : Value → Shared → Prop} : ∀ (xs : List (Str × Pos)) (as : List At) (vs : List Value) (σ : List (Str × Ct)) (s : Shared), All2 At.Is as vs → xs.length = as.length → (∀ x ∈ xs, Sto c x.1) → Inv c σ γ s →
    (∀ s', Inv c (pushAll xs as σ) γ s' → Q () s') → wpAny c.M c.A (assignInOrder ((assignEach (xs.map fun x => .Name x.1 x.2) c.env).map (·.2)) vs) Q E s
  | [], [], [], σ, s, _, _, _, I, k => wpAny_pure (k s I)
  | (x, px) :: xs, a :: as, v :: vs, σ, s, ⟨h1, h2⟩, hl, hx, I, k => by
    show wpAny c.M c.A (do holding vs (PySem.assign (.Name x px) c.env v); assignInOrder ((assignEach (xs.map fun x => .Name x.1 x.2) c.env).map (·.2)) vs) Q E s
    refine wpAny_bind (wpAny_holding (wpAny_assign_Name (I.store (ct := .p (.a a)) h1 (hx _ (.head _)) fun s' I' => ?_)))
    exact assignNames xs as vs _ s' h2 (by simpa using hl) (fun y hy => hx y (.tail _ hy)) I' k
  | [], _ :: _, _, _, _, _, hl, _, _, _ => by simp at hl
  | _ :: _, [], _, _, _, _, hl, _, _, _ => by simp at hl
  | [], [], _ :: _, _, _, h, _, _, _, _ => h.elim
  | _ :: _, _ :: _, [], _, _, h, _, _, _, _ => h.elim
theorem assignEach_names {env : Env} : ∀ (xs : List (Str × Pos)), (assignEach (xs.map fun x => PySem.Expr.Name x.1 x.2) env).length = xs.length ∧ (assignEach (xs.map fun x => PySem.Expr.Name x.1 x.2) env).findIdx? (·.1) = none
  | [] => ⟨rfl, rfl⟩
  | (x, px) :: xs => by
    have ih := assignEach_names (env := env) xs
    have e : assignEach (((x, px) :: xs).map fun x => PySem.Expr.Name x.1 x.2) env = (false, PySem.assign (.Name x px) env) :: assignEach (xs.map fun x => PySem.Expr.Name x.1 x.2) env := rfl
    rw [e]
    refine ⟨by simp [ih.1], ?_⟩
    rw [List.findIdx?_cons, ih.2]; rfl
theorem W.unpack {elts : List PySem.Expr} {e : PySem.Expr} {tk : Nat} {tpos pos : Pos} {as : List At} (xs : List (Str × Pos)) (hh : c.A.handled = none) (I : Inv c σ γ s) (he : Exp c σ γ e (.p (.t as))) (hx : elts = xs.map fun x => .Name x.1 x.2) (hl : xs.length = as.length)
    (hsto : ∀ x ∈ xs, Sto c x.1) (k : ∀ s', Inv c (pushAll xs as σ) γ s' → W c rest Q E s')
    (hs : swapsWithSole [.Tuple elts tk tpos] e pos.line c.env = pure false := by rfl) (hw : swappedStores [.Tuple elts tk tpos] e c.env = pure none := by rfl) : W c (.Assign [.Tuple elts tk tpos] e pos :: rest) Q E s := by
  refine wpAny_execs_cons (wpAny_Assign_stores (wpAny_mono (he s I) (fun v s₁ ⟨e1, q⟩ => ?_) fun _ _ x => x.elim) hs hw)
  obtain ⟨a, vs, rfl, ⟨o, ho, hc, n, hd⟩, q⟩ := q
  subst hx
  obtain ⟨h1, h2⟩ := assignEach_names (env := c.env) xs
  show wpAny _ _ (PySem.assign (.Tuple _ tk tpos) c.env (.ref a)) _ _ _
  refine wpAny_assign_Tuple hh ⟨o, ho, hc, n, hd⟩ (by rw [h1, List.size_toArray, ← q.length, hl]) h2 fun h' hk => ?_
  have e2 : Ext s₁ { s₁ with heap := h' } := .heap fun b o e => hk b o (Nat.ne_of_lt (Heap.lt_size e)) e
  exact assignNames xs as vs σ _ q hl hsto ((I.ext e1).ext e2) k

/-! ## a dict of the text's top, by a text -/
theorem Exp.topDict {x : Str} {np pos : Pos} {slice : PySem.Expr} {d : Addr} {es : Array DictEntry} {n : Nat} {y : Str} {i : Int} {t : Tok} (hg : nsIn c.K mainGlobals x = some (some (.ref d))) (hk : c.env.kindOf x = some .globalImplicit)
    (hl : c.K.lookup d = some ⟨.type "dict", none, .dict es n, #[]⟩) (hkl : KeysLit c.w.params es.toList) (he : Exp c σ γ slice (vS y)) (e : nsIn c.K d y = some (some (.int i t)))
    (hs : SubOk slice := by intro _ _; with_unfolding_all rfl) (hd : (x == ("__debug__" : Str)) = false := by decide) : Exp c σ γ (.Subscript (.Name x np) slice pos) (vI i) := fun s I => by
  refine sub_raw (nameK I hg hk (wpAny_mono (he s I) (fun v s₁ ⟨e1, u, q⟩ => ?_) fun _ _ x => x) hd)
  subst q
  have hm := mapOf_K (prog := c.prog) (w := c.w) (I.ext e1).ambH.inK hl hkl
  exact tail_any hm.typeIs slot_dict_getitem.lookup (wpAny_getItem_of (strKind_is c.prog c.w y u) hm (find_K hl e) ⟨e1.trans .toks, t, rfl⟩) (hs _ _)

/-! ## defs with cells -/
abbrev inDefC (prog : Program) (w : World) (K : Frag) (A : Around) (s : Shared) (qual : Str) (scope : Scope) (f : Addr) (cdv : Value) : Cx :=
  ⟨prog, w, K, A.deeper (envOfC qual scope s.heap.objs.size f cdv), s, envOfC qual scope s.heap.objs.size f cdv⟩

theorem mem_of_lookup {α : Type} {x : Str} {v : α} : ∀ {l : List (Str × α)}, l.lookup x = some v → (x, v) ∈ l
  | [], h => by cases h
  | (y, d) :: r, h => by
    rw [List.lookup_cons] at h
    cases hy : x == y with
    | true => rw [hy] at h; cases h; rw [beq_iff_eq.mp hy]; exact .head _
    | false => rw [hy] at h; exact .tail _ (mem_of_lookup h)
theorem pairwise_inj {x y : Str} {b : Addr} : ∀ {l : List (Str × Addr)}, (l.Pairwise fun p q => p.2 ≠ q.2) → (x, b) ∈ l → (y, b) ∈ l → x = y
  | [], _, h, _ => by cases h
  | p :: l, h, h1, h2 => by
    rw [List.pairwise_cons] at h
    rcases List.mem_cons.mp h1 with e1 | h1
    · rcases List.mem_cons.mp h2 with e2 | h2
      · rw [← e1] at e2; cases e2; rfl
      · rw [← e1] at h; exact absurd rfl (h.1 (y, b) h2 : (x, b).2 ≠ (y, b).2)
    · rcases List.mem_cons.mp h2 with e2 | h2
      · rw [← e2] at h; exact absurd rfl (h.1 (x, b) h1 : (y, b).2 ≠ (x, b).2)
      · exact pairwise_inj h.2 h1 h2
theorem enterC {prog : Program} {w : World} {K : Frag} {A : Around} {R : Result → Shared → Prop} {name qual : Str} {params : Arguments} {body : List Stmt} {scope : Scope} {dV kV doc pm cdv ct oc : Value} {an od : Option Addr} {osl : Array (Option Value)}
    {f : Addr} {vs : List Value} {binds : List (Str × Value)} {σ₀ : List (Str × Ct)}
    (ho : K.lookup f = some ⟨oc, od, .func (fnOf name qual params body scope dV kV doc pm an cdv ct), osl⟩) (hcd : codeIn K cdv qual = true) (hA : A.depth < recursionLimit) (amb : Amb K s.heap)
    (hb : bindArgs (fnOf name qual params body scope dV kV doc pm an cdv ct) ⟨vs, []⟩ = pure binds)
    (hkind : ∀ x ∈ binds, scope.names.lookup x.1 = some .local ∨ (scope.names.lookup x.1 = some .cell ∧ ((cellsFrom (s.heap.objs.size + 1) scope.names []).lookup x.1).isSome = true))
    (hσ : ∀ p ∈ σ₀, ∃ v, p.2.Is s.heap v ∧ ((scope.names.lookup p.1 = some .local ∧ bindL (fun x => scope.names.lookup x) binds (fun _ => none) p.1 = some v) ∨
      (scope.names.lookup p.1 = some .cell ∧ bindC (fun x => scope.names.lookup x) binds (fun _ => none) p.1 = some v ∧ ((cellsFrom (s.heap.objs.size + 1) scope.names []).lookup p.1).isSome = true)))
    (h : ∀ s₁, Inv (inDefC prog w K A s qual scope f cdv) σ₀ g0 s₁ →
      W (inDefC prog w K A s qual scope f cdv) body (fun fl s' => R (.ok (.ret (match fl with | .ret v => v | _ => .none))) s')
        (fun e s' => wpAny (model prog w) (A.deeper (envOfC qual scope s.heap.objs.size f cdv)) (leaving (envOfC qual scope s.heap.objs.size f cdv) e) (fun _ s'' => R (.error e) s'') (fun e' s'' => R (.error e') s'') s') s₁)
    (hco : scope.isCoroutine = false := by rfl) (hgen : scope.isGenerator = false := by rfl) (hk : scope.kind = .function := by rfl) : codeAny (model prog w) A (.call (.ref f) ⟨vs, []⟩) R s := by
  obtain ⟨p, l, mg, mb, T⟩ := amb.top
  refine codeAny_call_function (fd := fnOf name qual params body scope dV kV doc pm an cdv ct) hA (amb.inK _ _ ho) rfl hco hgen rfl (codeRec_of amb.inK hcd) ?_
  rw [hb]
  refine wpAny_pure (wpAny_newFunctionEnv_cells hk hkind fun env' he s' x => ?_)
  subst he
  obtain ⟨h₁, tk, rfl, hk₁⟩ := x.done
  refine ⟨T.nolimit.keeps hk₁, codeAny_func ?_⟩
  refine h _ ⟨amb, hk₁, rfl, ⟨hk, rfl, rfl, Heap.get?_none_of_le (Nat.le_refl _), ⟨_, x.toInCall.ns, fun y ct e hky => ?_⟩, fun y c e => ⟨_, x.cell y c e⟩, fun y z c e1 e2 => pairwise_inj x.apart (mem_of_lookup e1) (mem_of_lookup e2), fun y ct e hky => ?_⟩, fun q hq => (by cases hq), keepT0⟩
  · obtain ⟨v, h1, h2⟩ := hσ _ (lookup_mem e)
    have hky' : scope.names.lookup y = some .local := hky
    rcases h2 with ⟨_, h2⟩ | ⟨h2, _⟩
    · exact ⟨v, h2, h1.keep hk₁⟩
    · rw [hky'] at h2; cases h2
  · obtain ⟨v, h1, h2⟩ := hσ _ (lookup_mem e)
    have hky' : scope.names.lookup y = some .cell ∨ scope.names.lookup y = some .free := hky
    rcases h2 with ⟨h2, _⟩ | ⟨h2, h3, h4⟩
    · rw [h2] at hky'; rcases hky' with q | q <;> cases q
    · obtain ⟨b, hb'⟩ := Option.isSome_iff_exists.mp h4
      refine ⟨b, v, hb', ?_, h1.keep hk₁⟩
      have := x.cell y b hb'
      rw [← h3]; exact this
end
end Mine

namespace Mine
section
variable {c : Cx} {σ σ' : List (Str × Ct)} {γ : Gh} {s : Shared} {rest : List Stmt} {Q : Flow → Shared → Prop} {E : Value → Shared → Prop}
def itr {ι : Type} (f : ι → ι) : Nat → ι → ι
  | 0, i => i
  | n + 1, i => f (itr f n i)
theorem itr_succ {ι : Type} (f : ι → ι) : ∀ n i, itr f (n + 1) i = itr f n (f i)
  | 0, _ => rfl
  | n + 1, i => congrArg f (itr_succ f n i)
theorem itr_ends {ι : Type} (f : ι → ι) (b : ι → Bool) (P : ι → Prop) (μ : ι → Nat) (hP : ∀ i, P i → b i = true → P (f i)) (hμ : ∀ i, P i → b i = true → μ (f i) < μ i) : ∀ m i, μ i ≤ m → P i →
    ∃ n, (∀ k, k ≤ n → P (itr f k i)) ∧ ∀ k, k ≤ n → b (itr f k i) = decide (k < n) := by
  intro m
  induction m with
  | zero =>
    intro i hm hi
    refine ⟨0, fun k hk => ?_, fun k hk => ?_⟩
    · obtain rfl : k = 0 := by omega
      exact hi
    · obtain rfl : k = 0 := by omega
      cases hb : b i with
      | false => exact hb
      | true => have := hμ i hi hb; omega
  | succ m ih =>
    intro i hm hi
    cases hb : b i with
    | false =>
      refine ⟨0, fun k hk => ?_, fun k hk => ?_⟩
      · obtain rfl : k = 0 := by omega
        exact hi
      · obtain rfl : k = 0 := by omega
        exact hb
    | true =>
      have := hμ i hi hb
      obtain ⟨n, h1, h2⟩ := ih (f i) (by omega) (hP i hi hb)
      refine ⟨n + 1, fun k hk => ?_, fun k hk => ?_⟩
      · cases k with
        | zero => exact hi
        | succ k => rw [itr_succ]; exact h1 k (by omega)
      · cases k with
        | zero => show b i = _; rw [hb]; simp
        | succ k => rw [itr_succ, h2 k (by omega)]; simp
/-- a while by states: what the states become, what stays -/
theorem W.whileR {ι α : Type} {test : PySem.Expr} {body : List Stmt} {pos : Pos} (J : ι → List (Str × Ct)) (f : ι → ι) (b : ι → Bool) (P : ι → Prop) (μ : ι → Nat) (F : ι → α) (i₀ : ι) (I : Inv c (J i₀) γ s) (h0 : P i₀)
    (hP : ∀ i, P i → b i = true → P (f i) ∧ μ (f i) < μ i ∧ F (f i) = F i)
    (ht : ∀ i, P i → Tst c (J i) γ test (b i))
    (hbody : ∀ i s', P i → b i = true → Inv c (J i) γ s' → W c body (fun fl s'' => match fl with | .next => Inv c (J (f i)) γ s'' | _ => False) no s')
    (k : ∀ i s', P i → b i = false → F i = F i₀ → Inv c (J i) γ s' → W c rest Q E s') : W c (.While test body [] pos :: rest) Q E s := by
  obtain ⟨n, h1, h2⟩ := itr_ends f b P μ (fun i hi hb => (hP i hi hb).1) (fun i hi hb => (hP i hi hb).2.1) (μ i₀) i₀ (Nat.le_refl _) h0
  have hF : ∀ k, k ≤ n → F (itr f k i₀) = F i₀ := by
    intro k
    induction k with
    | zero => intro _; rfl
    | succ k ih =>
      intro hk
      have hb : b (itr f k i₀) = true := by rw [h2 k (by omega)]; simp; omega
      exact ((hP _ (h1 k (by omega)) hb).2.2).trans (ih (by omega))
  refine W.while_ (fun k => J (itr f k i₀)) n I (fun i hi => ?_) (fun i s' hi I' => ?_) (fun s' I' => k (itr f n i₀) s' (h1 n (Nat.le_refl _)) (by rw [h2 n (Nat.le_refl _)]; simp) (hF n (Nat.le_refl _)) I')
  · rw [← h2 i hi]; exact ht _ (h1 i hi)
  · exact hbody _ s' (h1 i (by omega)) (by rw [h2 i (by omega)]; simp; omega) I'
theorem ExpF.bin {l r : PySem.Expr} {op : Operator} {pos : Pos} {x y : Vl} {ps : List Pt} (h1 : Exp c σ γ l x) (h2 : Exp c σ γ r y)
    (h : ∀ s a b, Inv c σ γ s → x.Is s.heap a → y.Is s.heap b → wpAny c.M c.A (binaryOp op a b) (fun v s' => Ext s s' ∧ ∃ a, v = .ref a ∧ s.heap.get? a = none ∧ Lst s'.heap a ps) no s) : ExpF c σ γ (.BinOp l op r pos) ps := fun s I =>
  wpAny_BinOp (wpAny_mono (h1 s I) (fun a s₁ ⟨e1, q1⟩ => wpAny_mono (h2 s₁ (I.ext e1)) (fun b s₂ ⟨e2, q2⟩ =>
    wpAny_mono (h s₂ a b ((I.ext e1).ext e2) (q1.keep e2.keep) q2) (fun v s' ⟨e3, a', q3, q4, q5⟩ => ⟨(e1.trans e2).trans e3, a', q3, (by
      cases hg : s.heap.get? a' with
      | none => rfl
      | some o => have := (e1.trans e2).keep _ _ hg; rw [q4] at this; cases this), q5⟩) fun _ _ x => x) fun _ _ x => x) fun _ _ x => x)
theorem ExpF.addL {l r : PySem.Expr} {pos : Pos} {x y : List Pt} (h1 : Exp c σ γ l (.l x)) (h2 : Exp c σ γ r (.l y)) (hs : x.length + y.length ≤ sizeLine) : ExpF c σ γ (.BinOp l .Add r pos) (x ++ y) :=
  .bin h1 h2 fun s a b I q1 q2 => by
    obtain ⟨a, rfl, q1⟩ := q1; obtain ⟨b, rfl, q2⟩ := q2
    exact addL_raw q1 q2 hs fun a' s' e1 hn z => ⟨e1, _, rfl, hn, z⟩
theorem ExpF.mulL {l r : PySem.Expr} {pos : Pos} {p : Pt} {i : Int} (h1 : Exp c σ γ l (.l [p])) (h2 : Exp c σ γ r (vI i)) (hs : i.toNat ≤ 2 ^ 20) (hlo : -(2 ^ 63 : Int) ≤ i) : ExpF c σ γ (.BinOp l .Mult r pos) (List.replicate i.toNat p) :=
  .bin h1 h2 fun s a b I q1 q2 => by
    obtain ⟨a, rfl, q1⟩ := q1; obtain ⟨t, rfl⟩ := q2
    exact mulL_raw q1 hs hlo fun a' s' e1 hn z => ⟨e1, _, rfl, hn, z⟩
end
end Mine

namespace Mine

/-! ## map(int, list) -/
theorem slot_map_init : Slot "map" "__init__" "object.__init__" :=
  .of (owner := "object") (n := "__init__") (by rw [typeLookup_type, builtinLookup_eq_fast]; kernel_rfl) (by decide +kernel) (by decide +kernel) (by decide +kernel)
    (by first | exact .inl (by decide +kernel) | exact .inr (by decide +kernel)) (by rw [isSubtype_type]; kernel_rfl)
theorem slot_map_iter : Slot "map" "__iter__" "map.__iter__" :=
  .of (owner := "map") (n := "__iter__") (by rw [typeLookup_type, builtinLookup_eq_fast]; kernel_rfl) (by decide +kernel) (by decide +kernel) (by decide +kernel)
    (by first | exact .inl (by decide +kernel) | exact .inr (by decide +kernel)) (by rw [isSubtype_type]; kernel_rfl)
theorem slot_map_next : Slot "map" "__next__" "map.__next__" :=
  .of (owner := "map") (n := "__next__") (by rw [typeLookup_type, builtinLookup_eq_fast]; kernel_rfl) (by decide +kernel) (by decide +kernel) (by decide +kernel)
    (by first | exact .inl (by decide +kernel) | exact .inr (by decide +kernel)) (by rw [isSubtype_type]; kernel_rfl)
theorem args_map_iter_1 (a : Value) : argsOk "map.__iter__" ⟨[a], []⟩ := by unfold argsOk; kernel_rfl
theorem args_map_next_1 (a : Value) : argsOk "map.__next__" ⟨[a], []⟩ := by unfold argsOk; kernel_rfl
theorem entry_map_next : entryFor table "map.__next__" = some Builtin.«map.__next__» := entryFor_of_tree (by kernel_rfl)
theorem entry_map_new : entryFor table "map.__new__" = some Builtin.«map.__new__» := entryFor_of_tree (by kernel_rfl)
theorem entry_map_iter : entryFor table "map.__iter__" = some Builtin.«dict_keyiterator.__iter__» :=
  entryFor_alias (id' := "dict_keyiterator.__iter__") (by kernel_rfl) (by first | rfl | decide +kernel | (unfold String.splitOn; simp +decide [String.splitOnAux])) (by decide +kernel) (by kernel_rfl)
theorem mro_map : mroOf (.type "map") = pure [.type "map", .type "object"] := by rw [mroOf_type]; kernel_rfl
theorem lookup_map_new : typeLookup (.type "map") "__new__" = pure (some (.builtin "map.__new__")) := by rw [typeLookup_type, builtinLookup_eq_fast]; kernel_rfl
theorem called_map : TypeCalled "map" "map.__new__" "object.__init__" :=
  ⟨by decide +kernel, by decide +kernel, ⟨_, _, mro_map⟩, madeBy_type mro_map lookup_map_new (by decide +kernel), by decide +kernel, by rw [isSubtype_type]; kernel_rfl, slot_map_init⟩
theorem typeCall_map_2 (a b : Value) : checkTypeCall "map" ⟨[a, b], []⟩ = pure () := by kernel_rfl
theorem newCall_map_2 (a b : Value) : checkBuiltinCall "map.__new__" ⟨[.type "map", a, b], []⟩ = pure () := by kernel_rfl
theorem sub_map : isSubtype (.type "map") (.type "map") = pure true := by rw [isSubtype_type]; kernel_rfl

abbrev IsMap (h : Heap) (z T : Addr) (f : Value) : Prop := h.get? z = some { cls := .type "map", dict := none, data := .fields #[.ref T, f], slots := #[] }
abbrev IsOne (h : Heap) (T : Addr) (a : Value) : Prop := h.get? T = some { cls := .type "tuple", data := .seq #[a] }
abbrev mapH1 (h : Heap) (l : Addr) : Heap := h.push { cls := .type "list_iterator", data := .fields #[.ref l, .int 0 0] }
abbrev mapH2 (h : Heap) (l : Addr) : Heap := (mapH1 h l).push { cls := .type "tuple", data := .seq #[.ref h.objs.size] }
abbrev mapH3 (h : Heap) (l : Addr) (f : Value) : Heap := (mapH2 h l).push { cls := .type "map", data := .fields #[.ref (mapH1 h l).objs.size, f] }
theorem meets_map_new (f : Value) (l : Addr) (xs : Array Value) :
    Meets (Builtin.«map.__new__» ⟨[.type "map", f, .ref l], []⟩) (fun _ R s => s.heap.IsList l xs ∧ R (.ok (.ret (.ref (mapH2 s.heap l).objs.size))) { s with heap := mapH3 s.heap l f }) :=
  .of_wp fun prog w A R s h => by
    obtain ⟨hp, g, d, tk, os⟩ := s; obtain ⟨hl, h⟩ := h
    have hsub := sub_map
    have hL : Heap.IsList (Shared.heap ⟨hp, g, d, tk, os⟩) l xs := hl
    wp_walk using wpAny_pyIter_list hL
    exact ⟨_, rfl, h⟩
section
variable {prog : Program} {w : World} {A : Around} {E : Value → Shared → Prop} {s : Shared}
theorem call_map {f : Value} {l : Addr} {xs : Array Value} {Q : Value → Shared → Prop} (hl : s.heap.IsList l xs)
    (h : ∀ h', IsMap h' (s.heap.objs.size + 2) (s.heap.objs.size + 1) f → IsOne h' (s.heap.objs.size + 1) (.ref s.heap.objs.size) → h'.IsListIter s.heap.objs.size l 0 → KeepH s.heap h' → Q (.ref (s.heap.objs.size + 2)) { s with heap := h' }) :
    wpAny (model prog w) A (call (.type "map") [f, .ref l]) Q E s := by
  refine callType_new called_map (by decide) (typeCall_map_2 _ _) (newCall_map_2 _ _) (fun obj => F.args_object_init_3 obj _ _) entry_map_new (meets_map_new f l xs) ⟨hl, ?_⟩
  have z1 : (mapH1 s.heap l).objs.size = s.heap.objs.size + 1 := Heap.size_push ..
  have z2 : (mapH2 s.heap l).objs.size = s.heap.objs.size + 2 := by rw [Heap.size_push, z1]
  have g3 : (mapH3 s.heap l f).get? (mapH2 s.heap l).objs.size = some _ := Heap.get?_push_size _ rfl
  have g2 : (mapH3 s.heap l f).get? (mapH1 s.heap l).objs.size = some _ := Heap.get?_push_of_some _ (Heap.get?_push_size _ rfl)
  have g1 : (mapH3 s.heap l f).get? s.heap.objs.size = some _ := Heap.get?_push_of_some _ (Heap.get?_push_of_some _ (Heap.get?_push_size _ rfl))
  show _ ∧ _
  refine ⟨⟨_, g3, rfl⟩, ?_⟩
  rw [z2]
  refine h _ ?_ ?_ ⟨_, g1, rfl, rfl⟩ fun b o e => Heap.get?_push_of_some _ (Heap.get?_push_of_some _ (Heap.get?_push_of_some _ e))
  · rw [← z2, ← z1]; exact g3
  · rw [← z1]; exact g2
theorem pyIter_map {z T : Addr} {f : Value} {Q : Value → Shared → Prop} (hz : IsMap s.heap z T f) (h : Q (.ref z) s) : wpAny (model prog w) A (pyIter (.ref z)) Q E s := by
  have hT : s.TypeIs (.ref z) "map" := ⟨_, hz, rfl⟩
  refine wpAny_pyIter_slot hT slot_map_iter (wpAny_call_entry slot_map_iter hT entry_map_iter ?_ (args_map_iter_1 _))
  show wpAny _ _ (ret (.ref z)) _ _ s
  exact wpAny_pure ⟨_, rfl, "map", _, hT, slot_map_next.lookup, h⟩
end
end Mine

namespace Mine
section
variable {prog : Program} {w : World} {A : Around} {E : Value → Shared → Prop} {s : Shared}
/-- the next of map: the source's next item, handed to f -/
theorem pyNext_map_item {z T i l : Addr} {k : Nat} {xs : Array Value} {x f : Value} {Q : Option Value → Shared → Prop} (hz : IsMap s.heap z T f) (hT : IsOne s.heap T (.ref i)) (hi : s.heap.IsListIter i l k) (hl : s.heap.IsList l xs) (hx : xs[k]? = some x) (hiz : z ≠ i)
    (h : ∀ h', h'.IsListIter i l (k + 1) → Heap.SameBut i s.heap h' → wpAny (model prog w) A.in1 (call f [x]) (fun v s' => Q (some v) s') (fun e s' => wpAny (model prog w) A (do if ← isInstance e (.type "StopIteration") then pure none else throw e) Q E s') { s with heap := h' }) :
    wpAny (model prog w) A (pyNext (.ref z)) Q E s := by
  have hTz : s.TypeIs (.ref z) "map" := ⟨_, hz, rfl⟩
  unfold pyNext
  refine wpAny_bind (wpAny_attempt (wpAny_callSpecial?_slot (name := Str.ofString "__next__") hTz slot_map_next (wpAny_call_entry slot_map_next hTz entry_map_next ?_ (args_map_next_1 _))))
  show wpAny _ _ (field (.ref z) 0 >>= _) _ _ _
  refine wpAny_bind (wpAny_field hz rfl (x := .ref T) rfl ?_)
  refine wpAny_bind (wpAny_seqItems hT rfl ?_)
  dsimp only
  simp only [Array.forIn_toList.symm, List.forIn_cons, List.forIn_nil]
  refine wpAny_bind (wpAny_bind (wpAny_bind (wpAny_holding (wpAny_nextOf_list_item hi hl hx fun h' hi' hs' => wpAny_pure (wpAny_pure ?_)))))
  refine wpAny_bind (wpAny_field (x := f) (hs'.extBut _ _ hiz hz) rfl rfl ?_)
  refine wpAny_bind (wpAny_holding (wpAny_mono (h h' hi' hs') (fun v s' hv => ?_) fun _ _ y => y))
  exact wpAny_bind (wpAny_letGo (wpAny_pure ⟨v, rfl, wpAny_pure hv⟩))
theorem pyNext_map_end {z T i l : Addr} {k : Nat} {xs : Array Value} {f : Value} {Q : Option Value → Shared → Prop} (hh : A.handled = none) (hz : IsMap s.heap z T f) (hT : IsOne s.heap T (.ref i)) (hi : s.heap.IsListIter i l k) (hl : s.heap.IsList l xs) (hx : xs[k]? = none)
    (h : ∀ h', Heap.ExtBut i s.heap h' → Q none { s with heap := h' }) : wpAny (model prog w) A (pyNext (.ref z)) Q E s := by
  have hTz : s.TypeIs (.ref z) "map" := ⟨_, hz, rfl⟩
  unfold pyNext
  refine wpAny_bind (wpAny_attempt (wpAny_callSpecial?_slot (name := Str.ofString "__next__") hTz slot_map_next (wpAny_call_entry slot_map_next hTz entry_map_next ?_ (args_map_next_1 _))))
  show wpAny _ _ (field (.ref z) 0 >>= _) _ _ _
  refine wpAny_bind (wpAny_field hz rfl (x := .ref T) rfl ?_)
  refine wpAny_bind (wpAny_seqItems hT rfl ?_)
  dsimp only
  simp only [Array.forIn_toList.symm, List.forIn_cons, List.forIn_nil]
  refine wpAny_bind (wpAny_bind (wpAny_bind (wpAny_holding (wpAny_nextOf_list_end hh hi hl hx fun h' e hs' he => ?_))))
  obtain ⟨o, ho, hc⟩ := he
  refine wpAny_bind (wpAny_isInstance (T := "StopIteration") (b := true) ⟨o, ho, hc⟩ isSubtype_stop ?_)
  exact wpAny_pure (h _ hs')

end
end Mine

namespace Mine
/-! ## trees with the codes that lie above known -/
def wpO {α : Type} (M : Model) (S : List Code) (A : Around) (t : Sem α) (Q : α → Shared → Prop) (E : Value → Shared → Prop) (s : Shared) : Prop :=
  ∀ Γ p, Γ.In A → (∃ r, Γ.code :: Γ.below.map (·.1) = S ++ r) → Sem.wp M Γ t (fun a _ s' => Q a s') (fun e _ s' => E e s') p s
def codeO (M : Model) (S : List Code) (A : Around) (c : Code) (R : Result → Shared → Prop) (s : Shared) : Prop :=
  ∀ Γ p, Γ.code = c → Γ.Below A → (∃ r, Γ.below.map (·.1) = S ++ r) → wpCode M Γ R p s
section
variable {α β : Type} {M : Model} {S : List Code} {A : Around} {E : Value → Shared → Prop} {s : Shared}
theorem wpO_any {t : Sem α} {Q : α → Shared → Prop} (h : wpAny M A t Q E s) : wpO M S A t Q E s := fun Γ p hΓ _ => h Γ p hΓ
theorem wpO_mono {t : Sem α} {Q Q' : α → Shared → Prop} {E' : Value → Shared → Prop} (h : wpO M S A t Q E s) (hQ : ∀ a s, Q a s → Q' a s) (hE : ∀ e s, E e s → E' e s) : wpO M S A t Q' E' s :=
  fun Γ p hΓ hS => Sem.wp_mono M Γ t (fun a _ s => hQ a s) (fun e _ s => hE e s) p s (h Γ p hΓ hS)
theorem wpO_bind {m : Sem α} {f : α → Sem β} {Q : β → Shared → Prop} (h : wpO M S A m (fun a s' => wpO M S A (f a) Q E s') E s) : wpO M S A (m >>= f) Q E s := fun Γ p hΓ hS => by
  rw [Sem.wp_bind']
  exact Sem.wp_mono M Γ m (fun a p' s' h' => h' Γ p' hΓ hS) (fun _ _ _ h' => h') p s (h Γ p hΓ hS)
/-- a first part that does not look at the stack -/
theorem wpO_step {m : Sem α} {f : α → Sem β} {Q : β → Shared → Prop} (h : wpAny M A m (fun a s' => wpO M S A (f a) Q E s') E s) : wpO M S A (m >>= f) Q E s := wpO_bind (wpO_any h)
theorem wpO_holding {vs : List Value} {m : Sem α} {Q : α → Shared → Prop} (h : wpO M S A m Q E s) : wpO M S A (holding vs m) Q E s := fun Γ p hΓ hS => by
  rw [Sem.wp_holding]; exact h Γ p hΓ hS
theorem wpO_call {f : Value} {pos : List Value} {kw : List (Str × Value)} {Q : Value → Shared → Prop}
    (hc : codeO M S A (.call f ⟨pos, kw⟩) (fun r s' => match r with | .ok (.ret v) => Q v s' | .ok _ => False | .error e => E e s') s) : wpO M S A (call f pos kw) Q E s := fun Γ p hΓ hS => by
  show Sem.wp M Γ (runValue _) _ _ p s
  rw [Sem.wp_runValue]
  exact hc _ p rfl (hΓ.enter _ none p (by intro x; cases x)) hS
theorem codeO_tree {c : Code} {R : Result → Shared → Prop}
    (h : wpO M (c :: S) (A.under c) (M.den c) (fun fin s' => match fin with | .done f => R (.ok f) s' | .again c' => c'.quiet = true ∧ codeO M S A c' R s') (fun e s' => R (.error e) s') s) : codeO M S A c R s := fun Γ p hc hΓ hS => by
  rw [wpCode_iff_wp, hc]
  obtain ⟨r, hr⟩ := hS
  refine Sem.wp_mono M Γ _ (fun fin p' s' h' => ?_) (fun _ _ _ h' => h') p s (h Γ p (hc ▸ hΓ.in) ⟨r, by rw [hc, hr]; rfl⟩)
  cases fin with
  | done f => exact h'
  | again c' => exact ⟨h'.1, h'.2 (Γ.goto c') p' rfl (hΓ.goto c') ⟨r, hr⟩⟩
theorem codeAny_of_O {c : Code} {R : Result → Shared → Prop} (h : codeO M [] A c R s) : codeAny M A c R s := fun Γ p hc hΓ => h Γ p hc hΓ ⟨_, rfl⟩
theorem codeO_mono {c : Code} {R R' : Result → Shared → Prop} (h : codeO M S A c R s) (hR : ∀ r s, R r s → R' r s) : codeO M S A c R' s := fun Γ p hc hΓ hS => wpCode_mono hR (h Γ p hc hΓ hS)
theorem wpO_stack {f : List (Code × Pos) → Sem β} {Q : β → Shared → Prop} (h : ∀ st, (∃ r, st.map (·.1) = S ++ r) → wpO M S A (f st) Q E s) : wpO M S A (stack >>= f) Q E s := fun Γ p hΓ hS => by
  rw [Sem.wp_bind']
  exact h ((Γ.code, p) :: Γ.below) hS Γ p hΓ hS
end
section
variable {prog : Program} {w : World} {S : List Code} {A : Around} {E : Value → Shared → Prop} {s : Shared} {R : Result → Shared → Prop}
theorem codeO_builtin {id : String} {args : Args} {b : Builtin} (hb : entryFor table id = some b)
    (h : wpO (model prog w) (.builtin id args :: S) (A.under (.builtin id args)) (b args) (fun fin s' => match fin with | .done f => R (.ok f) s' | .again c' => c'.quiet = true ∧ codeO (model prog w) S A c' R s') (fun e s' => R (.error e) s') s) :
    codeO (model prog w) S A (.builtin id args) R s := by
  refine codeO_tree ?_
  show wpO _ _ _ (match entryFor table id with | some b => b args | none => unsupported ((withoutEnding? id "#data").getD id)) _ _ s
  rw [hb]; exact h
theorem codeO_call_builtin {id : String} {args : Args} (hq : (Code.builtin id args).quiet = true) (hchk : checkBuiltinCall id args = pure ())
    (h : codeO (model prog w) S A (.builtin id args) R s) : codeO (model prog w) S A (.call (.builtin id) args) R s := by
  refine codeO_tree ?_
  show wpO _ _ _ (do checkBuiltinCall id args; again (.builtin id args)) _ _ s
  rw [hchk]
  exact wpO_step (wpAny_pure (wpO_any (wpAny_pure ⟨hq, h⟩)))
theorem codeO_call_type {T : String} {args : List Value} (h : codeO (model prog w) S A (.builtin "type.__call__" ⟨.type T :: args, []⟩) R s) : codeO (model prog w) S A (.call (.type T) ⟨args, []⟩) R s := by
  refine codeO_tree ?_
  show wpO _ _ _ (callAny (.type T) _) _ _ _
  exact wpO_any (wpAny_pure ⟨Code.quiet_builtin _ (by decide +kernel), h⟩)
/-- the refusal is made by map's own code: no mark is left -/
theorem noMark {own : List String} {z : Value} {r : Value} {a1 a2 : Args} {Q : Unit → Shared → Prop} (how : own.contains "map.__next__" = false) (h : Q () s) :
    wpO (model prog w) [.builtin "int.__new__" a1, .builtin "type.__call__" a2, .builtin "map.__next__" ⟨[z], []⟩] A (markTheRefusal own r) Q E s := by
  unfold markTheRefusal
  refine wpO_stack fun st ⟨rr, hr⟩ => ?_
  have e : pythonCodeMadeTheCall own (st.map (·.1)) = false := by
    rw [hr]
    unfold pythonCodeMadeTheCall
    refine Bool.and_eq_false_iff.mpr (.inr (List.all_eq_false.mpr ⟨.builtin "map.__next__" ⟨[z], []⟩, ?_, ?_⟩))
    · show _ ∈ Code.builtin "int.__new__" a1 :: Code.builtin "type.__call__" a2 :: Code.builtin "map.__next__" ⟨[z], []⟩ :: rr.takeWhile (·.env?.isNone)
      exact .tail _ (.tail _ (.head _))
    · have h2 : ("map.__next__" == "type.__call__") = false := by decide
      simp only [how, h2, Bool.false_and, Bool.or_false]
      decide
  rw [e]
  exact wpO_any (wpAny_pure h)
end
end Mine

namespace Mine
section
variable {prog : Program} {w : World} {S : List Code} {A : Around} {E : Value → Shared → Prop} {s : Shared} {R : Result → Shared → Prop}
open NumText
theorem wpO_no {α : Type} {M : Model} {c : Prop} [Decidable c] {t e : Sem α} {Q : α → Shared → Prop} (hc : ¬ c) (h : wpO M S A e Q E s) : wpO M S A (if c then t else e) Q E s := by rw [if_neg hc]; exact h
theorem wpO_yes {α : Type} {M : Model} {c : Prop} [Decidable c] {t e : Sem α} {Q : α → Shared → Prop} (hc : c) (h : wpO M S A t Q E s) : wpO M S A (if c then t else e) Q E s := by rw [if_pos hc]; exact h
theorem int_bad {x : Str} {u : Tok} {z : Value} {a1 a2 : Args} {Q : Fin → Shared → Prop} (hh : A.handled = none) (hl : x.length ≤ 640) (hc : ∀ d ∈ x.cps.toList, d < 128) (hn : PySem.intText? x = none) (hseen : (numSeenOf x).length = (numTextOf x).length)
    (h : ∀ h' tk e, Heap.NewExc s.heap h' e "ValueError" → E (.ref e) { s with heap := h', toks := tk }) :
    wpO (model prog w) [.builtin "int.__new__" a1, .builtin "type.__call__" a2, .builtin "map.__next__" ⟨[z], []⟩] A (Builtin.«int.__new__» ⟨[.type "int", .str x u], []⟩) Q E s := by
  have f1 := F.conv_sub_int
  have f2 := F.madeHere_int
  have f3 := KIN.str_int
  have f4 := KIN.str_idx
  have f5 := KIN.str_trunc
  have f6 : typeOf (.str x u) = pure (.type "str") := rfl
  have hs : (numSeenOf x).length ≤ 640 := Nat.le_trans (seen_length x) hl
  have hr : (int_private% "readNumeral") 0 10 (numSeenOf x) = (int_private% "Numeral.invalid") := by
    rcases read0 x hs with ⟨m, h1, h2, h3⟩ | ⟨h1, h2 | ⟨i, h2, h3⟩⟩
    · rw [hn] at h1; cases h1
    · exact h2
    · rw [hseen] at h3; simp at h3
  unfold Builtin.«int.__new__»
  dsimp only
  refine wpO_step (wpAny_pure (a := true) ?_)
  refine wpO_no (by decide) (wpO_step (wpAny_of_eq f1 ?_))
  refine wpO_no (by decide) (wpO_step (wpAny_of_eq f2 ?_))
  refine wpO_no (by simp) (wpO_no (by simp) (wpO_step (wpAny_pure ?_)))
  show wpO _ _ _ ((int_private% "intFromObject") (.str x u) >>= _) _ _ _
  refine wpO_bind (wpO_mono (Q := fun _ _ => False) (E := E) ?_ (fun _ _ x => x.elim) fun _ _ x => x)
  refine wpO_step (wpAny_callSpecial?_none (typeIs_str _ _ _) f3 ?_)
  refine wpO_step (wpAny_specialOf (typeIs_str _ _ _) f4 ?_)
  refine wpO_no (by decide) (wpO_step (wpAny_specialOf (typeIs_str _ _ _) f5 ?_))
  show wpO _ _ _ ((int_private% "numeralText?") (.str x u) >>= _) _ _ _
  refine wpO_step (wpAny_pure (a := some (numTextOf x)) ?_)
  show wpO _ _ _ ((int_private% "intFromText") (.str x u) (numTextOf x) 10) _ _ _
  refine wpO_yes (c := (numSeenOf x).length ≤ 640) hs (wpO_step (wpAny_pure ?_))
  have hr' : (int_private% "readNumeral") 0 10 ((numTextOf x).takeWhile (· != 0)) = (int_private% "Numeral.invalid") := hr
  dsimp only
  rw [hr']
  dsimp only
  refine wpO_step (wpAny_pure (a := none) ?_)
  refine wpO_no (by simp) (wpO_step (wpAny_rule (wpO_step (wpAny_pure (a := none) ?_))))
  dsimp only
  refine wpO_step (wpAny_pyRepr_str ?_ ?_)
  · refine wpO_step (wpAny_mkStr ?_ ?_)
    · refine wpO_step (wpAny_newExc_plain plainExc_ValueError (fun h' e he => ?_))
      exact wpO_bind (noMark (by decide) (wpO_any (wpAny_raiseNew_none hh (h _ _ _ he.newExc))))
    · rw [Str.length_append]
      have h1 : (Str.ofString (toString "invalid literal for int() with base " ++ toString 10 ++ toString ": ")).length ≤ 1000 := by decide +kernel
      have h2 : ({ cps := (reprText x).cps.extract 0 200 } : Str).length ≤ 200 := by
        show ((reprText x).cps.extract 0 200).size ≤ 200
        rw [Array.size_extract]; omega
      unfold sizeLine; omega
  · have := PySem.StrLaws.reprText_len x fun d hd => Nat.lt_of_lt_of_le (hc d hd) (by decide)
    unfold sizeLine; omega

theorem mro_int : mroOf (.type "int") = pure [.type "int", .type "object"] := by rw [mroOf_type]; kernel_rfl
theorem entry_int_new' : entryFor table "int.__new__" = some Builtin.«int.__new__» := entryFor_of_tree (by kernel_rfl)
theorem madeBy_int : Bind.madeBy (.type "int") = pure (some "int.__new__") := madeBy_type mro_int (by rw [typeLookup_type, builtinLookup_eq_fast]; kernel_rfl) (by decide +kernel)
theorem typeCall_int_1 (a : Value) : checkTypeCall "int" ⟨[a], []⟩ = pure () := by kernel_rfl
theorem newCall_int_1 (a : Value) : checkBuiltinCall "int.__new__" ⟨[.type "int", a], []⟩ = pure () := by kernel_rfl
theorem create_int : ((Manifest.find? "int").bind (·.mro.findSome? fun t => (Manifest.find? t).bind fun b => if b.noNew then some true else if b.attrs.any (·.1 == "__new__") then some false else none)).getD false = false := by decide +kernel
/-- int(text) inside map: a text that int refuses -/
theorem map_int_bad {x : Str} {u : Tok} {z : Value} {Q : Value → Shared → Prop} (hh : A.handled = none) (hl : x.length ≤ 640) (hc : ∀ d ∈ x.cps.toList, d < 128) (hn : PySem.intText? x = none) (hseen : (numSeenOf x).length = (numTextOf x).length)
    (h : ∀ h' tk e, Heap.NewExc s.heap h' e "ValueError" → E (.ref e) { s with heap := h', toks := tk }) :
    wpO (model prog w) [.builtin "map.__next__" ⟨[z], []⟩] A (call (.type "int") [.str x u]) Q E s := by
  refine wpO_call (codeO_call_type (codeO_builtin F.entry_type_call ?_))
  unfold Builtin.«type.__call__»
  dsimp only
  refine wpO_no (by decide) ?_
  refine wpO_no (by rw [create_int]; decide) ?_
  refine wpO_step (wpAny_of_eq (typeCall_int_1 _) ?_)
  refine wpO_step (wpAny_of_eq mro_int ?_)
  refine wpO_no (by decide) ?_
  refine wpO_step (wpAny_of_eq madeBy_int ?_)
  dsimp only
  refine wpO_step (wpAny_pure (wpO_bind (wpO_holding (wpO_call (codeO_call_builtin (Code.quiet_builtin _ (by decide +kernel)) (newCall_int_1 _) (codeO_builtin entry_int_new' ?_))))))
  exact wpO_mono (int_bad (Q := fun _ _ => False) hh hl hc hn hseen h) (fun _ _ x => x.elim) fun _ _ x => x
/-- the next of map over int: the text that comes is refused -/
theorem pyNext_map_bad {z T i l : Addr} {k : Nat} {xs : Array Value} {x : Str} {u : Tok} {Q : Option Value → Shared → Prop} (hh : A.handled = none) (hz : IsMap s.heap z T (.type "int")) (hT : IsOne s.heap T (.ref i)) (hi : s.heap.IsListIter i l k) (hlst : s.heap.IsList l xs) (hx : xs[k]? = some (.str x u)) (hiz : z ≠ i)
    (hl : x.length ≤ 640) (hc : ∀ d ∈ x.cps.toList, d < 128) (hn : PySem.intText? x = none) (hseen : (numSeenOf x).length = (numTextOf x).length)
    (h : ∀ h' e tk, Heap.ExtBut i s.heap h' → (∃ ob t, h'.get? e = some ob ∧ ob.cls = .type "ValueError" ∧ ob.data = .fields #[t, .none, .none, .none, .bool false, .none]) → s.heap.get? e = none → E (.ref e) { s with heap := h', toks := tk }) :
    wpAny (model prog w) A (pyNext (.ref z)) Q E s := by
  have hTz : s.TypeIs (.ref z) "map" := ⟨_, hz, rfl⟩
  unfold pyNext
  refine wpAny_bind (wpAny_attempt (wpAny_callSpecial?_slot (name := Str.ofString "__next__") hTz slot_map_next ?_))
  refine wpAny_call (codeAny_call_builtin_code (plainId_quiet slot_map_next.plain _) (slot_map_next.check _ _ _ _ _ _ _ _ hTz (args_map_next_1 _) (codeAny_of_O (codeO_builtin entry_map_next ?_))))
  show wpO _ _ _ (field (.ref z) 0 >>= _) _ _ _
  refine wpO_step (wpAny_field hz rfl (x := .ref T) rfl ?_)
  refine wpO_step (wpAny_seqItems hT rfl ?_)
  dsimp only
  simp only [Array.forIn_toList.symm, List.forIn_cons, List.forIn_nil]
  refine wpO_step (wpAny_bind (wpAny_bind (wpAny_holding (wpAny_nextOf_list_item hi hlst hx fun h' hi' hs' => wpAny_pure (wpAny_pure ?_)))))
  refine wpO_step (wpAny_field (x := .type "int") (hs'.extBut _ _ hiz hz) rfl rfl ?_)
  refine wpO_bind (wpO_holding (map_int_bad (z := .ref z) hh hl hc hn hseen fun h'' tk e he => ?_))
  obtain ⟨ob, t, ho, hcl, hd⟩ := he.there
  refine wpAny_bind (wpAny_isInstance (T := "ValueError") (b := false) ⟨ob, ho, hcl⟩ (isSubtype_of_subB (by decide +kernel)) ?_)
  refine wpAny_throw (h _ _ _ (fun b o hb e' => he.keeps b o (hs'.extBut b o hb e')) ⟨ob, t, ho, hcl, hd⟩ ?_)
  cases hg : s.heap.get? e with
  | none => rfl
  | some o =>
    by_cases hei : e = i
    · subst hei
      obtain ⟨oi, hoi, _⟩ := hi'
      rw [he.new] at hoi; cases hoi
    · have := hs'.extBut e o hei hg
      rw [he.new] at this; cases this
end
end Mine

namespace Mine
/-- short plain texts -/
def TxtOk (x : Str) : Prop := x.length ≤ 640 ∧ ∀ d ∈ x.cps.toList, 0 < d ∧ d < 128
theorem TxtOk.seen {x : Str} (h : TxtOk x) : (numSeenOf x).length = (numTextOf x).length := by
  have hall : x.cps.all (· < 128) = true := by
    rw [Array.all_eq_true]
    intro i hi
    exact decide_eq_true (h.2 _ (by simp)).2
  have e : numTextOf x = x.cps.toList := by unfold numTextOf; rw [if_pos hall]
  show ((numTextOf x).takeWhile (· != 0)).length = _
  rw [e]
  congr 1
  refine PySem.NumText.takeWhile_all fun d hd => ?_
  have := (h.2 d hd).1
  simp only [bne_iff_ne, ne_eq]; omega
/-- what line, col = map(int, parts) gives -/
def lcOf : List Str → Option (Int × Int)
  | [a, b] => match PySem.intText? a, PySem.intText? b with
    | some m, some n => some (m, n)
    | _, _ => none
  | _ => none
structure MapAt (h : Heap) (z T i l : Addr) (k : Nat) (xs : Array Value) : Prop where
  mz : IsMap h z T (.type "int")
  mT : IsOne h T (.ref i)
  mi : h.IsListIter i l k
  ml : h.IsList l xs
  zi : z ≠ i
  Ti : T ≠ i
  li : l ≠ i
theorem MapAt.but {h h' : Heap} {z T i l : Addr} {k k' : Nat} {xs : Array Value} (x : MapAt h z T i l k xs) (e : Heap.ExtBut i h h') (hi : h'.IsListIter i l k') : MapAt h' z T i l k' xs :=
  ⟨e _ _ x.zi x.mz, e _ _ x.Ti x.mT, hi, x.ml.extBut e x.li, x.zi, x.Ti, x.li⟩
/-- a ValueError, new -/
def NewVE (h h' : Heap) (e : Addr) : Prop := h.get? e = none ∧ ∃ ob t, h'.get? e = some ob ∧ ob.cls = .type "ValueError" ∧ ob.data = .fields #[t, .none, .none, .none, .bool false, .none]
theorem none_from {h₀ h : Heap} {e : Addr} (k : KeepH h₀ h) (x : h.get? e = none) : h₀.get? e = none := by
  cases hg : h₀.get? e with
  | none => rfl
  | some o => have := k e o hg; rw [x] at this; cases this
theorem NewVE.from {h₀ h h' : Heap} {e : Addr} (x : NewVE h h' e) (k : KeepH h₀ h) : NewVE h₀ h' e := ⟨none_from k x.1, x.2⟩
theorem keep_but {i : Addr} {h₀ h h' : Heap} (k : KeepH h₀ h) (hi : h₀.get? i = none) (e : Heap.ExtBut i h h') : KeepH h₀ h' := fun b o q => e b o (by rintro rfl; rw [hi] at q; cases q) (k b o q)
section
variable {prog : Program} {w : World} {A : Around} {E : Value → Shared → Prop} {s : Shared}
theorem MapAt.next {z T i l : Addr} {k : Nat} {xs : Array Value} {Q : Option Value → Shared → Prop} (hh : A.handled = none) (m : MapAt s.heap z T i l k xs) (hok : ∀ v ∈ xs, ∃ x u, v = .str x u ∧ TxtOk x)
    (hitem : ∀ x u n, xs[k]? = some (.str x u) → PySem.intText? x = some n → ∀ h' tk t, MapAt h' z T i l (k + 1) xs → Heap.ExtBut i s.heap h' → Q (some (.int n t)) { s with heap := h', toks := tk })
    (hend : xs[k]? = none → ∀ h', Heap.ExtBut i s.heap h' → Q none { s with heap := h' })
    (hbad : ∀ x u, xs[k]? = some (.str x u) → PySem.intText? x = none → ∀ h' tk e, Heap.ExtBut i s.heap h' → NewVE s.heap h' e → E (.ref e) { s with heap := h', toks := tk }) : wpAny (model prog w) A (pyNext (.ref z)) Q E s := by
  cases hx : xs[k]? with
  | none => exact pyNext_map_end hh m.mz m.mT m.mi m.ml hx (hend hx)
  | some v =>
    obtain ⟨x, u, rfl, hok'⟩ := hok v (Array.mem_of_getElem? hx)
    cases hn : PySem.intText? x with
    | none => exact pyNext_map_bad hh m.mz m.mT m.mi m.ml hx m.zi hok'.1 (fun d hd => (hok'.2 d hd).2) hn hok'.seen fun h' e tk hk ho hnew => hbad x u hx hn h' tk e hk ⟨hnew, ho⟩
    | some n =>
      refine pyNext_map_item m.mz m.mT m.mi m.ml hx m.zi fun h' hi' hs' => ?_
      refine KIN.call_text hn hok'.1 ?_
      exact hitem x u n hx hn h' _ _ (m.but hs'.extBut hi') hs'.extBut

theorem unpack_map {z T i l : Addr} {ts : List (Str × Tok)} {h₀ : Heap} {Q : List Value → Shared → Prop} (hh : A.handled = none) (m : MapAt s.heap z T i l 0 (strValues ts).toArray) (hok : ∀ x ∈ ts, TxtOk x.1) (hk₀ : KeepH h₀ s.heap) (hi₀ : h₀.get? i = none)
    (hQ : ∀ a b, lcOf (ts.map (·.1)) = some (a, b) → ∀ h' tk t t', KeepH h₀ h' → Q [.int a t, .int b t'] { s with heap := h', toks := tk })
    (hE : lcOf (ts.map (·.1)) = none → ∀ h' tk e, KeepH h₀ h' → NewVE h₀ h' e → E (.ref e) { s with heap := h', toks := tk }) : wpAny (model prog w) A (unpackItems (.ref z) 2 none) Q E s := by
  have hok' : ∀ v ∈ (strValues ts).toArray, ∃ x u, v = .str x u ∧ TxtOk x := by
    intro v hv
    rw [List.mem_toArray] at hv
    unfold strValues at hv
    obtain ⟨p, hp, rfl⟩ := List.mem_map.mp hv
    exact ⟨_, _, rfl, hok p hp⟩
  have hget : ∀ (k : Nat) (x : Str) (u : Tok), (strValues ts).toArray[k]? = some (Value.str x u) → ts[k]? = some (x, u) := by
    intro k x u h
    rw [List.getElem?_toArray] at h
    unfold strValues at h
    rw [List.getElem?_map] at h
    cases hk : ts[k]? with
    | none => rw [hk] at h; cases h
    | some p => rw [hk] at h; cases h; rfl
  have hnone : ∀ k : Nat, (strValues ts).toArray[k]? = none → ts.length ≤ k := by
    intro k h
    rw [List.getElem?_toArray] at h
    unfold strValues at h
    rw [List.getElem?_map] at h
    cases hk : ts[k]? with
    | none => exact List.getElem?_eq_none_iff.mp hk
    | some p => rw [hk] at h; cases h
  unfold unpackItems
  refine wpAny_bind ?_
  unfold notIterableAtAll
  have hTz : s.TypeIs (.ref z) "map" := ⟨_, m.mz, rfl⟩
  refine wpAny_bind (wpAny_specialOf hTz slot_map_iter.lookup ?_)
  refine wpAny_pure ?_
  simp only [Bool.false_eq_true, if_false]
  refine wpAny_bind (wpAny_holding (pyIter_map m.mz ?_))
  have bad1 : ∀ x u, ts[0]? = some (x, u) → PySem.intText? x = none → lcOf (ts.map (·.1)) = none := by
    intro x u h1 h2
    match ts, h1 with
    | [_, b], h1 => cases h1; simp only [List.map_cons, List.map_nil, lcOf, h2]
    | [], h1 => cases h1
    | [_], _ => rfl
    | _ :: _ :: _ :: _, _ => rfl
  have bad2 : ∀ x u, ts[1]? = some (x, u) → PySem.intText? x = none → lcOf (ts.map (·.1)) = none := by
    intro x u h1 h2
    match ts, h1 with
    | [a, _], h1 => cases h1; simp only [List.map_cons, List.map_nil, lcOf, h2]; split <;> simp_all
    | [], h1 => cases h1
    | [_], _ => rfl
    | _ :: _ :: _ :: _, _ => rfl
  have len2 : ts.length ≠ 2 → lcOf (ts.map (·.1)) = none := by
    intro h
    match ts, h with
    | [a, _], h => exact absurd rfl h
    | [], h => rfl
    | [_], _ => rfl
    | _ :: _ :: _ :: _, _ => rfl
  show wpAny _ _ (holding [.ref z] (draw (.ref z) 2) >>= _) _ _ _
  refine wpAny_bind (wpAny_holding ?_)
  show wpAny _ _ (pyNext (.ref z) >>= _) _ _ _
  refine wpAny_bind (m.next hh hok' (fun x u n hx hn h' tk t m1 k1 => ?_) (fun hx h' k1 => ?_) fun x u hx hn h' tk e k1 he => hE (bad1 x u (hget _ _ _ hx) hn) h' tk e (keep_but hk₀ hi₀ k1) (he.from hk₀))
  · have k1' := keep_but hk₀ hi₀ k1
    refine wpAny_bind (wpAny_holding ?_)
    show wpAny _ _ (pyNext (.ref z) >>= _) _ _ _
    refine wpAny_bind (m1.next hh hok' (fun x2 u2 n2 hx2 hn2 h2 tk2 t2 m2 k2 => ?_) (fun hx2 h2 k2 => ?_) fun x2 u2 hx2 hn2 h2 tk2 e k2 he => hE (bad2 x2 u2 (hget _ _ _ hx2) hn2) h2 tk2 e (keep_but k1' hi₀ k2) (he.from k1'))
    · have k2' := keep_but k1' hi₀ k2
      refine wpAny_bind (wpAny_holding (wpAny_pure (wpAny_pure (wpAny_pure ?_))))
      rw [if_neg (by simp)]
      refine wpAny_bind (wpAny_holding (m2.next hh hok' (fun x3 u3 n3 hx3 hn3 h3 tk3 t3 m3 k3 => ?_) (fun hx3 h3 k3 => ?_) fun x3 u3 hx3 hn3 h3 tk3 e k3 he => ?_))
      · have k3' := keep_but k2' hi₀ k3
        have hl : lcOf (ts.map (·.1)) = none := len2 (by have := (List.getElem?_eq_some_iff.mp (hget _ _ _ hx3)).1; omega)
        refine wpAny_bind (wpAny_rule (wpAny_bind ?_))
        refine wpAny_raiseErrorMade plainExc_ValueError hh (fun h'' tk' e he => hE hl h'' tk' e (fun b o q => he.keeps b o (k3' b o q)) ⟨none_from k3' he.new, he.there⟩) (by decide +kernel)
      · have k3' := keep_but k2' hi₀ k3
        have hl : ts.length = 2 := by
          have h1 := hnone _ hx3
          have h2 := (List.getElem?_eq_some_iff.mp (hget _ _ _ hx2)).1
          omega
        have hlc : lcOf (ts.map (·.1)) = some (n, n2) := by
          have g1 := hget _ _ _ hx
          have g2 := hget _ _ _ hx2
          match ts, hl, g1, g2 with
          | [a, b], _, g1, g2 => cases g1; cases g2; simp only [List.map_cons, List.map_nil, lcOf, hn, hn2]
        exact wpAny_pure (hQ n n2 hlc _ _ _ _ k3')
      · have hl : lcOf (ts.map (·.1)) = none := len2 (by have := (List.getElem?_eq_some_iff.mp (hget _ _ _ hx3)).1; omega)
        exact hE hl h3 tk3 e (keep_but k2' hi₀ k3) (he.from k2')
    · have k2' := keep_but k1' hi₀ k2
      have hl : lcOf (ts.map (·.1)) = none := len2 (by have := hnone _ hx2; omega)
      refine wpAny_pure (wpAny_pure ?_)
      rw [if_pos (by simp)]
      refine wpAny_bind (wpAny_rule (wpAny_bind ?_))
      refine wpAny_raiseErrorMade plainExc_ValueError hh (fun h'' tk' e he => hE hl h'' tk' e (fun b o q => he.keeps b o (k2' b o q)) ⟨none_from k2' he.new, he.there⟩) (by show (Str.ofString (toString "not enough values to unpack (expected " ++ toString 2 ++ toString ", got " ++ toString 1 ++ toString ")")).length ≤ sizeLine; decide +kernel)
  · have k1' := keep_but hk₀ hi₀ k1
    have hl : lcOf (ts.map (·.1)) = none := len2 (by have := hnone _ hx; omega)
    refine wpAny_pure ?_
    rw [if_pos (by simp)]
    refine wpAny_bind (wpAny_rule (wpAny_bind ?_))
    refine wpAny_raiseErrorMade plainExc_ValueError hh (fun h'' tk' e he => hE hl h'' tk' e (fun b o q => he.keeps b o (k1' b o q)) ⟨none_from k1' he.new, he.there⟩) (by decide +kernel)
end
end Mine

namespace Mine
section
variable {c : Cx} {σ σ' : List (Str × Ct)} {γ : Gh} {s : Shared} {rest : List Stmt} {Q : Flow → Shared → Prop} {E : Value → Shared → Prop}
/-- map(int, o.split(y)): the map stands at the end of the heap -/
theorem mapSplit {o e : PySem.Expr} {np ip apos spos pos : Pos} {x y : Str} {Q : Value → Shared → Prop} {E : Value → Shared → Prop} (I : Inv c σ γ s) (ho : Exp c σ γ o (vS x)) (he : Exp c σ γ e (vS y)) (hy : (y.length == 0) = false) (hx : x.length ≤ 640)
    (h : ∀ z T i l ts s', Ext s s' → MapAt s'.heap z T i l 0 (strValues ts).toArray → ts.map (·.1) = Txt.split x y → s.heap.get? i = none → Q (.ref z) s')
    (hb : nsIn c.K mainGlobals "map" = some none) (hk : c.env.kindOf "map" = some .globalImplicit) (hb' : nsIn c.K mainGlobals "int" = some none) (hk' : c.env.kindOf "int" = some .globalImplicit)
    (hs : isStarred e = false := by rfl) (hbase : attributeBase o "split" c.env (eval o c.env) = eval o c.env := by rfl) (hline : (apos.endLine == spos.line) = true := by rfl) :
    wpAny c.M c.A (eval (.Call (.Name "map" np) [.Name "int" ip, .Call (.Attribute o "split" apos) [e] [] spos] [] pos) c.env) Q E s := by
  refine wpAny_Call_NameR (nameB I hb (v := .type "map") (by decide +kernel) hk ?_)
  rw [starEach_cons rfl, starEach_cons rfl]
  refine PySem.callWith_type rfl (evalArgs_plain (spliced_cons (nameB I hb' (v := .type "int") (by decide +kernel) hk' (spliced_cons ?_))))
  refine meth1_raw (c := c) F.plainAttrs_str F.slot_str_split F.type_str_split (wpAny_mono (ho s I) (fun ov s₁ ⟨e1, t, q⟩ => ?_) fun _ _ x => x.elim) hs hbase hline
  subst q
  refine ⟨typeIs_str _ _ _, (fun a e => by cases e), wpAny_mono (he s₁ (I.ext e1)) (fun v s₂ ⟨e2, u, q⟩ => ?_) fun _ _ x => x.elim⟩
  subst q
  refine PySem.SCH.split1 (P := KeepH s₂.heap) (fun _ _ p b o q => Heap.get?_push_of_some _ (p b o q)) (fun _ _ q => q) hy (fun D l h' k hl hk hD => ?_) (by unfold sizeLine; omega) ?_
  · refine spliced_nil ?_
    refine call_map hD fun h'' hz hT hi hk2 => ?_
    refine h _ _ _ _ l _ ?_ ⟨hz, hT, hi, ?_, ?_, ?_, ?_⟩ hl ?_
    · exact (e1.trans e2).trans ⟨fun b o q => hk2 b o (hk b o q), rfl⟩
    · obtain ⟨o, ho, r⟩ := hD; exact ⟨o, hk2 _ _ ho, r⟩
    · show h'.objs.size + 2 ≠ h'.objs.size; omega
    · show h'.objs.size + 1 ≠ h'.objs.size; omega
    · obtain ⟨o, ho, r⟩ := hD; exact Nat.ne_of_lt (Heap.lt_size ho)
    · refine none_from (h := h') (fun b o q => hk b o (e2.keep b o (e1.keep b o q))) (Heap.get?_none_of_le (Nat.le_refl _))
  · have h1 := PySem.StrLaws.occ_length_le x y 0 x.length (x.length + 1)
    rw [PySem.length_partsBetween]; unfold sizeLine; omega
/-- a, b = map(int, o.split(y)) -/
theorem W.mapInt {o e : PySem.Expr} {np ip apos spos cpos pos tpos : Pos} {tk : Nat} {x y : Str} {n1 n2 : Str} {p1 p2 : Pos} (hh : c.A.handled = none) (I : Inv c σ γ s) (ho : Exp c σ γ o (vS x)) (he : Exp c σ γ e (vS y)) (hy : (y.length == 0) = false) (hx : x.length ≤ 640)
    (hok : ∀ p ∈ Txt.split x y, TxtOk p) (h1 : Sto c n1) (h2 : Sto c n2)
    (k : ∀ m n, lcOf (Txt.split x y) = some (m, n) → ∀ s', Inv c ((n2, cI n) :: (n1, cI m) :: σ) γ s' → W c rest Q E s')
    (kE : lcOf (Txt.split x y) = none → ∀ s' e, Ext s s' → NewVE s.heap s'.heap e → E (.ref e) s')
    (hb : nsIn c.K mainGlobals "map" = some none) (hk : c.env.kindOf "map" = some .globalImplicit) (hb' : nsIn c.K mainGlobals "int" = some none) (hk' : c.env.kindOf "int" = some .globalImplicit)
    (hs : isStarred e = false := by rfl) (hbase : attributeBase o "split" c.env (eval o c.env) = eval o c.env := by rfl) (hline : (apos.endLine == spos.line) = true := by rfl)
    (hsw : swapsWithSole [.Tuple [.Name n1 p1, .Name n2 p2] tk tpos] (.Call (.Name "map" np) [.Name "int" ip, .Call (.Attribute o "split" apos) [e] [] spos] [] cpos) pos.line c.env = pure false := by rfl)
    (hw : swappedStores [.Tuple [.Name n1 p1, .Name n2 p2] tk tpos] (.Call (.Name "map" np) [.Name "int" ip, .Call (.Attribute o "split" apos) [e] [] spos] [] cpos) c.env = pure none := by rfl) :
    W c (.Assign [.Tuple [.Name n1 p1, .Name n2 p2] tk tpos] (.Call (.Name "map" np) [.Name "int" ip, .Call (.Attribute o "split" apos) [e] [] spos] [] cpos) pos :: rest) Q E s := by
  refine wpAny_execs_cons (wpAny_Assign_stores (mapSplit I ho he hy hx (fun z T i l ts s' e1 m hts hi => ?_) hb hk hb' hk' hs hbase hline) hsw hw)
  show wpAny _ _ (PySem.assign (.Tuple _ tk tpos) c.env (.ref z)) _ _ _
  rw [arm_assign_Tuple]
  refine wpAny_bind (wpAny_standAt ?_)
  unfold PySem.unpack
  refine wpAny_bind (wpAny_holding ?_)
  show wpAny _ _ (unpackItems (.ref z) 2 none) _ _ _
  refine unpack_map (h₀ := s.heap) hh m (fun p hp => hok p.1 (hts ▸ List.mem_map_of_mem hp)) e1.keep hi (fun a b hab h' tk' t t' hk₁ => ?_) fun hn h' tk' e hk₁ hv => kE (hts ▸ hn) _ e ⟨hk₁, by rw [e1.rest]⟩ hv
  have e2 : Ext s { s' with heap := h', toks := tk' } := ⟨hk₁, by rw [e1.rest]⟩
  exact assignNames [(n1, p1), (n2, p2)] [.int a, .int b] _ σ _ ⟨⟨t, rfl⟩, ⟨t', rfl⟩, trivial⟩ rfl (fun q hq => by
    rcases List.mem_cons.mp hq with rfl | hq
    · exact h1
    · rcases List.mem_cons.mp hq with rfl | hq
      · exact h2
      · cases hq) (I.ext e2) (fun s'' I' => k a b (hts ▸ hab) s'' I')
end
end Mine

namespace Mine
section
variable {c : Cx} {σ σ' : List (Str × Ct)} {γ : Gh} {s : Shared} {rest : List Stmt} {Q : Flow → Shared → Prop} {E : Value → Shared → Prop}
/-- o.split(e) -/
theorem strsFrom_all2 {h : Heap} : ∀ (tk : Nat) (ys : List Str), All2 (Pt.Is h) (ys.map pS) (strsFrom tk ys)
  | _, [] => trivial
  | tk, y :: ys => ⟨⟨tk, rfl⟩, strsFrom_all2 (tk + 1) ys⟩
theorem ExpF.split {o e : PySem.Expr} {apos pos : Pos} {x y : Str} {ys : List Str} (ho : Exp c σ γ o (vS x)) (he : Exp c σ γ e (vS y)) (h1 : (decide (x.length < y.length) || decide (Builtin.Str.strKind x < Builtin.Str.strKind y)) = false) (hy : (y.length == 0) = false)
    (hf : (Builtin.Str.occurrences x y 0 x.length (x.length + 1)).isEmpty = false) (hx : x.length ≤ 1000) (hys : Builtin.Str.partsBetween x (Builtin.Str.occurrences x y 0 x.length (x.length + 1)) y.length = ys) (hyl : ys.length ≤ 1000)
    (hs : isStarred e = false := by rfl) (hbase : attributeBase o "split" c.env (eval o c.env) = eval o c.env := by rfl) (hline : (apos.endLine == pos.line) = true := by rfl) :
    ExpF c σ γ (.Call (.Attribute o "split" apos) [e] [] pos) (ys.map pS) := fun s I => by
  refine meth1_raw (c := c) F.plainAttrs_str F.slot_str_split F.type_str_split (wpAny_mono (ho s I) (fun ov s₁ ⟨e1, t, q⟩ => ?_) fun _ _ x => x) hs hbase hline
  subst q
  refine ⟨typeIs_str _ _ _, (fun a e => by cases e), wpAny_mono (he s₁ (I.ext e1)) (fun v s₂ ⟨e2, u, q⟩ => ?_) fun _ _ x => x⟩
  subst q
  refine call_meets F.slot_str_split (typeIs_str _ _ _) F.entry_str_split (F.args_str_split_2 _ _) (meets_str_split_sep x y t u h1 hy hf (by unfold sizeLine; omega) (by rw [hys]; unfold sizeLine; omega)) ?_
  rw [hys]
  refine ⟨(e1.trans e2).trans (.heapToks fun b o q => Heap.get?_push_of_some _ q), _, rfl, none_from (fun b o q => e2.keep b o (e1.keep b o q)) (Heap.get?_none_of_le (Nat.le_refl _)), ?_⟩
  exact ⟨_, ⟨0, Heap.get?_push_size _ rfl⟩, strsFrom_all2 _ _⟩
theorem Exp.lenN {e : PySem.Expr} {np pos : Pos} {ps : List Pt} {n : Nat} (he : Exp c σ γ e (.l ps)) (hn : ps.length = n) (hsz : n ≤ 2 ^ 30) (hb : nsIn c.K mainGlobals "len" = some none := by rfl) (hk : c.env.kindOf "len" = some .globalImplicit := by rfl)
    (hs : isStarred e = false := by rfl) : Exp c σ γ (.Call (.Name "len" np) [e] [] pos) (vI n) := by
  subst hn; exact .lenL he hsz hb hk hs
/-- str(e) of a whole number -/
theorem Exp.str {e : PySem.Expr} {np pos : Pos} {i : Int} (he : Exp c σ γ e (vI i)) (hi : -(2 ^ 60) < i ∧ i < 2 ^ 60) (hb : nsIn c.K mainGlobals "str" = some none := by rfl) (hk : c.env.kindOf "str" = some .globalImplicit := by rfl)
    (hs : isStarred e = false := by rfl) : Exp c σ γ (.Call (.Name "str" np) [e] [] pos) (vS (Str.ofString (toString i))) := fun s I => by
  refine wpAny_Call_NameR (nameB I hb (v := .type "str") (by decide +kernel) hk (PyProof.Rows.callWith_type1 (he := starEach_cons hs) ?_))
  rw [starEach_cons hs]
  refine spliced_cons (wpAny_mono (he s I) (fun v s₁ ⟨e1, t, q⟩ => spliced_nil ?_) fun _ _ x => x)
  subst q
  exact str_of_int_fit (N := 2 ^ 60) (by split <;> omega) (by decide) fun _ => ⟨e1.trans .toks, _, rfl⟩
theorem rep_nat (d : Nat) : ∀ (n : Nat) (acc : Array Nat), List.foldl (fun x1 x2 => x1 ++ x2) acc (List.replicate n #[d]) = (acc.toList ++ List.replicate n d).toArray
  | 0, acc => by simp
  | n + 1, acc => by
    rw [List.replicate_succ, List.foldl_cons, rep_nat d n]
    simp [List.replicate_succ]
/-- ' ' * e -/
theorem Exp.mulS {l r : PySem.Expr} {pos : Pos} {d : Nat} {i : Int} (h1 : Exp c σ γ l (vS ⟨#[d]⟩)) (h2 : Exp c σ γ r (vI i)) (hi : -(2 ^ 60) < i ∧ i < 2 ^ 20) : Exp c σ γ (.BinOp l .Mult r pos) (vS ⟨(List.replicate i.toNat d).toArray⟩) :=
  .bin h1 h2 fun s a b I q1 q2 => by
    obtain ⟨t, rfl⟩ := q1; obtain ⟨u, rfl⟩ := q2
    refine P.mul_str (by rw [decide_eq_false (by omega), decide_eq_false (by omega)]; rfl) (fun h _ => ?_) (fun _ _ => ?_) ?_
    · have h0 : 0 < i := by omega
      have : (1 : Int) ≤ (2 ^ 63 - 1) / i := (Int.le_ediv_iff_mul_le h0).mpr (by omega)
      show ¬ (((1 : Nat) : Int) > _)
      omega
    · show Builtin.Str.tooLong (1 * i.toNat) = false
      unfold Builtin.Str.tooLong sizeLine
      exact decide_eq_false (by omega)
    · split
      · have : i.toNat = 0 := by omega
        rw [this]
        exact ⟨by decide, .toks, _, rfl⟩
      · split
        · rename_i h1
          have : i = 1 := by
            simp only [Bool.or_eq_true, beq_iff_eq] at h1
            exact h1.resolve_right (by show ¬ (1 = 0); decide)
          subst this
          exact ⟨.rfl', _, rfl⟩
        · have e := rep_nat d i.toNat #[]
          rw [show (⟨#[d]⟩ : Str).cps = #[d] from rfl, e]
          refine ⟨?_, .toks, s.toks, ?_⟩
          · show (([] : List Nat) ++ List.replicate i.toNat d).toArray.size ≤ sizeLine
            simp; unfold sizeLine; omega
          · simp
theorem set_last {α : Type} (l : List α) (v : α) (h : 0 < l.length) : l.set (l.length - 1) v = l.dropLast ++ [v] := by
  have hne : l ≠ [] := List.length_pos_iff.mp h
  have e := (List.dropLast_concat_getLast hne).symm
  have h2 : l.length - 1 = l.dropLast.length := by simp
  conv => lhs; rw [h2, e]
  rw [List.set_append_right _ _ (by simp)]
  simp
/-- x[-1] = e -/
theorem W.setLast {x : Str} {e slice : PySem.Expr} {px pos spos : Pos} {a : Addr} {ps : List Pt} {p : Pt} (I : Inv c σ γ s) (hx : σ.lookup x = some (.l a ps)) (hk : Seen c x) (he : Exp c σ γ e (.p p)) (hsl : Exp c σ γ slice (vI (-1))) (hne : ps ≠ [])
    (hB : c.B.heap.get? a = none) (hγ : ∀ q ∈ γ.objs, q.1 ≠ a) (hsz : ps.length ≤ 2 ^ 20) (k : ∀ s', Inv c (updL a (ps.dropLast ++ [p]) σ) γ s' → W c rest Q E s')
    (hsw : swapsWithSole [.Subscript (.Name x px) slice spos] e pos.line c.env = pure false := by rfl) (hsw2 : swappedStores [.Subscript (.Name x px) slice spos] e c.env = pure none := by rfl)
    (hd : (x == ("__debug__" : Str)) = false := by decide) (hcd : (x == ("__classdict__" : Str)) = false := by decide) :
    W c (.Assign [.Subscript (.Name x px) slice spos] e pos :: rest) Q E s := by
  refine wpAny_execs_cons (wpAny_Assign_stores (wpAny_mono (he s I) (fun v s₁ ⟨e1, q⟩ => ?_) fun _ _ x => x.elim) hsw hsw2)
  show wpAny _ _ (PySem.assign (.Subscript (.Name x px) slice spos) c.env v) _ _ _
  rw [arm_assign_Subscript]
  have I1 := I.ext e1
  refine wpAny_bind (wpAny_holding (var_raw I1 hx hk (fun ov qo => ?_) hd hcd))
  obtain ⟨rfl, hL⟩ := qo
  refine wpAny_bind (wpAny_holding (wpAny_mono (hsl s₁ I1) (fun iv s₂ ⟨e2, t, qi⟩ => ?_) fun _ _ x => x.elim))
  subst qi
  have I2 := I1.ext e2
  have hL2 := hL.keep e2.keep
  have q2 := Pt.Is.keep (p := p) q e2.keep
  obtain ⟨vs, ⟨n, ho⟩, qs⟩ := id hL2
  have hlen := qs.length
  have hpos : 0 < ps.length := List.length_pos_iff.mpr hne
  have nt : NoTup ({ cls := .type "list", data := .seq vs.toArray n } : Obj) := .inl (by simp)
  refine wpAny_bind (wpAny_standAt (wpAny_bind (wpAny_holding (ki_setBack ho (by decide) (by simp only [List.size_toArray]; omega) (by decide) ?_))))
  have hidx : ((-1 : Int) + (vs.toArray.size : Nat)).toNat = vs.length - 1 := by simp only [List.size_toArray]; omega
  rw [hidx]
  have kb : KeepBut a s₂.heap (s₂.heap.update a (Obj.mapSeq (·.setIfInBounds (vs.length - 1) v))) := fun b o hb e => (Heap.get?_update_other _ _ (Ne.symm hb)).trans e
  have ho' : (s₂.heap.update a (Obj.mapSeq (·.setIfInBounds (vs.length - 1) v))).get? a = some { cls := .type "list", data := .seq (vs.dropLast ++ [v]).toArray (if (vs.toArray.setIfInBounds (vs.length - 1) v).size == vs.toArray.size then n else n + 1) } := by
    rw [Heap.get?_update_self _ ho rfl]
    have : vs.toArray.setIfInBounds (vs.length - 1) v = (vs.dropLast ++ [v]).toArray := by
      rw [List.setIfInBounds_toArray]
      congr 1
      exact set_last vs v (by rw [← hlen]; exact hpos)
    simp [Obj.mapSeq, this]
  refine wpAny_release (k _ (I2.lst (tk := s₂.toks) hL2 hB hγ kb ⟨vs.dropLast ++ [v], ⟨_, ho'⟩, ?_⟩))
  rw [List.dropLast_eq_take, List.dropLast_eq_take, hlen]
  exact ((qs.take _).mono fun _ _ z => z.but ho nt kb).append ⟨Pt.Is.but (p := p) q2 ho nt kb, trivial⟩
end
end Mine

namespace Mine
section
variable {c : Cx} {σ σ' : List (Str × Ct)} {γ : Gh} {s : Shared} {rest : List Stmt} {Q : Flow → Shared → Prop} {E : Value → Shared → Prop}
/-- a for over what stands in the base; X i: what stands of the object at d beside the names -/
theorem W.forK {x : Str} {px pos : Pos} {iter : PySem.Expr} {body : List Stmt} {ps : List Pt} (J : Nat → List (Str × Ct)) (X : Nat → Heap → Prop) (d : Addr) (I : Inv c (J 0) γ s) (h0 : X 0 s.heap) (hd : ∃ o, s.heap.get? d = some o) (hLd : c.env.locals ≠ d)
    (hX : ∀ i a h h', a ≠ d → X i h → KeepBut a h h' → X i h')
    (hsrc : wpAny c.M c.A (eval iter c.env) (fun xv s₁ => wpAny c.M c.A (pyIter xv) (fun it s₂ => Ext s s₂ ∧ ∃ It fr P St, it = .ref It ∧ Walks c.prog c.w c.A It (It :: fr) [It] ps.length P St ∧ St 0 s₂.heap ∧ s.heap.get? It = none ∧
      (∀ i h, St i h → ∃ o vs, h.get? It = some o ∧ o.data = .fields vs) ∧ (∀ i v, P i v → ∃ p, ps[i]? = some p ∧ ∀ h, p.Is h v) ∧ ∀ b ∈ fr, ∃ o, c.B.heap.get? b = some o) no s₁) no s)
    (hx : c.env.kindOf x = some .local)
    (hbody : ∀ i p γ' s', ps[i]? = some p → (∀ q ∈ γ'.objs, q ∈ γ.objs ∨ s.heap.get? q.1 = none) → Inv c ((x, .p p) :: J i) γ' s' → X i s'.heap →
      W c body (fun f s'' => match f with | .next => Inv c (J (i + 1)) γ' s'' ∧ X (i + 1) s''.heap | _ => False) no s')
    (k : ∀ s', Inv c (J ps.length) γ s' → X ps.length s'.heap → W c rest Q E s')
    (hs : ∀ x, foldedSetIterable iter c.env x = pure x := by intro _; rfl) (ht : ∀ it v, letOwnedTupleGo (.Name x px) it v = pure () := by intro _ _; rfl) :
    W c (.For (.Name x px) iter body [] pos :: rest) Q E s := by
  refine wpAny_execs_cons (wpAny_For (wpAny_mono hsrc (fun xv s₁ h₁ => wpAny_mono h₁ (fun it s₂ ⟨e2, It, fr, P, St, hit, hw, hst0, hnew, hfld, hitem, hfr⟩ => ?_) fun _ _ x => x.elim) fun _ _ x => x.elim) hs)
  have I2 := I.ext e2
  subst hit
  have hB : c.B.heap.get? It = none := (by cases hg : c.B.heap.get? It with | none => rfl | some o => (have := I.keep _ _ hg; rw [hnew] at this; cases this))
  have hId : It ≠ d := by rintro rfl; obtain ⟨o, ho⟩ := hd; rw [hnew] at ho; cases ho
  have hγI : ∀ p ∈ γ.objs, p.1 ≠ It := fun p hp q => by
    have := (I.gh p hp).1; rw [q, hnew] at this; cases this
  have hX2 : X 0 s₂.heap := hX 0 It _ _ hId h0 fun b o _ e => e2.keep b o e
  refine codeAny_forLoop (fun n s' => ∃ i, n = ps.length + 1 - i ∧ i ≤ ps.length ∧ St i s'.heap ∧ Inv c (J i) γ s' ∧ X i s'.heap) ?_ (ps.length + 1) ⟨0, by omega, by omega, hst0, I2, hX2⟩ (ht _)
  rintro n s' ⟨i, rfl, hi, hst, I', hXi⟩
  obtain ⟨o0, vs0, ho0, hd0⟩ := hfld i _ hst
  by_cases hlt : i < ps.length
  · refine hw.item i s' _ _ hlt hst fun v h' tk hP hst' kp => ?_
    have kb : KeepBut It s'.heap h' := fun b o hb e => kp b o (by simpa using hb) e
    have I1 : Inv c (J i) γ { s' with heap := h', toks := tk } := I'.chg ho0 hd0 hB hγI kb
    have hX1 : X i h' := hX i It _ _ hId hXi kb
    obtain ⟨o1, vs1, ho1, hd1⟩ := hfld (i + 1) _ hst'
    obtain ⟨p, hp, hpi⟩ := hitem i v hP
    have I1' : Inv c (J i) ⟨γ.objs ++ [(It, o1)], h'⟩ { s' with heap := h', toks := tk } := ⟨I1.amb, I1.keep, I1.rest, I1.frm, fun q hq => by
      rcases List.mem_append.mp hq with hq | hq
      · exact I1.gh q hq
      · rw [List.mem_singleton] at hq; subst hq; exact ⟨ho1, .inl ⟨_, hd1⟩⟩, .rfl'⟩
    refine wpAny_assign_Name (I1'.storeLoc' (ct := .p p) (hpi _) hx fun s'' I'' kl => ?_)
    refine wpAny_mono (hbody i p ⟨γ.objs ++ [(It, o1)], h'⟩ s'' hp (fun q hq => ?_) I'' (hX i _ _ _ hLd hX1 kl)) (fun f s₃ hf => ?_) fun _ _ x => x.elim
    · rcases List.mem_append.mp hq with hq | hq
      · exact .inl hq
      · rw [List.mem_singleton] at hq; subst hq; exact .inr hnew
    · cases f with
      | next =>
        obtain ⟨I3, hX3⟩ := hf
        refine ⟨ps.length + 1 - (i + 1), by omega, i + 1, rfl, hlt, hw.frame _ _ _ hst' fun b hb o e => ?_, I3.ghost (fun q hq => List.mem_append_left _ hq) (I1.kt.trans I3.kt), hX3⟩
        rcases List.mem_cons.mp hb with rfl | hb
        · have e' : some o = some o1 := e.symm.trans ho1
          cases e'
          exact (I3.gh (_, o1) (List.mem_append_right _ (.head _))).1
        · obtain ⟨ob, hob⟩ := hfr b hb
          have := I1.keep b ob hob
          have e' : some o = some ob := e.symm.trans this
          cases e'
          exact I3.keep b _ hob
      | ret v => exact hf.elim
      | brk => exact hf.elim
      | cont => exact hf.elim
  · have hin : i = ps.length := by omega
    subst hin
    refine hw.done s' _ _ hst fun h' tk kp => ?_
    have kb : KeepBut It s'.heap h' := fun b o hb e => kp b o (by simpa using hb) e
    exact wpAny_execs_nil (k _ (I'.chg ho0 hd0 hB hγI kb) (hX _ It _ _ hId hXi kb))
theorem none_from' : True := trivial
end
end Mine

namespace Mine
section
variable {c : Cx} {σ σ' : List (Str × Ct)} {γ : Gh} {s : Shared} {rest : List Stmt} {Q : Flow → Shared → Prop} {E : Value → Shared → Prop}
/-- x = {} -/
theorem W.assignDict {x : Str} {px pos dpos : Pos} (I : Inv c σ γ s) (hx : c.env.kindOf x = some .local)
    (k : ∀ d s', s.heap.get? d = none → s.heap.objs.size ≤ d → Inv c ((x, .r d) :: σ) γ s' → s'.heap.get? d = some { cls := .type "dict", data := .dict #[] } → c.env.locals ≠ d → W c rest Q E s')
    (hs : swapsWith (.Dict [] [] dpos) (some (.Name x px)) pos.line c.env = pure false := by rfl) : W c (.Assign [.Name x px] (.Dict [] [] dpos) pos :: rest) Q E s := by
  refine wpAny_execs_cons (wpAny_Assign_Name ?_ hs)
  rw [eval_Dict_empty]
  refine wpAny_bind (wpAny_standAt ?_)
  obtain ⟨m, ⟨oL, es, ep, hoL, r⟩, _⟩ := I.frm.loc
  have hL : c.env.locals ≠ s.heap.objs.size := Nat.ne_of_lt (Heap.lt_size hoL)
  refine wpAny_newObj_type ?_
  refine (I.ext (Ext.push (s := s))).storeLoc' (ct := .r s.heap.objs.size) rfl hx fun s' I' kl => ?_
  exact k _ s' (Heap.get?_none_of_le (Nat.le_refl _)) (Nat.le_refl _) I' (kl _ _ hL.symm (Heap.get?_push_size _ rfl)) hL
end
end Mine

namespace Mine
abbrev Cx.re (c : Cx) (B : Shared) : Cx := ⟨c.prog, c.w, c.K, c.A, B, c.env⟩
section
variable {c : Cx} {σ σ' : List (Str × Ct)} {γ : Gh} {s : Shared} {rest : List Stmt} {Q : Flow → Shared → Prop} {E : Value → Shared → Prop}
/-- a smaller base -/
theorem Inv.shrink (I : Inv c σ γ s) {h : Heap} (amb : Amb c.K h) (k : KeepH h c.B.heap) : Inv (c.re { c.B with heap := h }) σ γ s :=
  ⟨amb, fun b o e => I.keep b o (k b o e), by rw [I.rest], ⟨I.frm.kind, I.frm.glob, I.frm.blt, (by
    cases hg : h.get? c.env.locals with
    | none => rfl
    | some o => have := k _ _ hg; rw [I.frm.newL] at this; cases this), I.frm.loc, I.frm.cel, I.frm.inj, I.frm.cv⟩, I.gh, I.kt⟩
/-- all that stands now but the names and ex -/
abbrev growB (c : Cx) (s : Shared) (ex : List Addr) : Shared := { s with heap := hideAll s.heap (c.env.locals :: ex) }
theorem Inv.grow (I : Inv c σ γ s) (ex : List Addr) (hex : ∀ a ∈ ex, c.B.heap.get? a = none) : Inv (c.re (growB c s ex)) σ γ s := by
  have k : KeepH c.B.heap (hideAll s.heap (c.env.locals :: ex)) := fun b o e => hideAll_get _ (I.keep b o e) fun q => by
    rcases List.mem_cons.mp q with rfl | q
    · rw [I.frm.newL] at e; cases e
    · rw [hex b q] at e; cases e
  exact ⟨I.amb.keep k, fun b o e => of_hideAll _ e, rfl, ⟨I.frm.kind, I.frm.glob, I.frm.blt, hideAll_none _ (.head _), I.frm.loc, I.frm.cel, I.frm.inj, I.frm.cv⟩, I.gh, I.kt⟩
/-- a loop with a tuple of names as its target, over a list of the base -/
theorem loopT {xs : List (Str × Pos)} {tk : Nat} {tpos : Pos} {elts : List PySem.Expr} {body : List Stmt} {tl : List (List At)} {a : Addr} {Rt : Value → Shared → Prop} {R : Result → Shared → Prop} {E' : Value → Shared → Prop} (J : Nat → List (Str × Ct)) (Lv : Nat → Prop) (h0 : Lv 0) (hh : c.A.handled = none) (hel : elts = xs.map fun x => .Name x.1 x.2)
    (I : Inv c (J 0) γ s) (hL : Lst c.B.heap a (tl.map .t)) (hl : ∀ l ∈ tl, l.length = xs.length) (hsto : ∀ x ∈ xs, Sto c x.1)
    (hbody : ∀ i l γ' s', tl[i]? = some l → Lv i → (∀ q ∈ γ'.objs, q ∈ γ.objs ∨ s.heap.get? q.1 = none) → Inv c (pushAll xs l (J i)) γ' s' →
      W c body (fun f s'' => match f with | .next => Lv (i + 1) ∧ Inv c (J (i + 1)) γ' s'' | .ret v => Rt v s'' | _ => False) no s')
    (k : ∀ s', Lv tl.length → Inv c (J tl.length) γ s' → R (.ok .next) s') (kr : ∀ v s', Rt v s' → R (.ok (.ret v)) s') :
    wpAny c.M c.A (pyIter (.ref a)) (fun it s₂ => codeAny c.M c.A (.forLoop (.Tuple elts tk tpos) it body [] c.env) R s₂) E' s := by
  subst hel
  obtain ⟨vs, ⟨n, eB⟩, q⟩ := hL
  have e := I.keep _ _ eB
  have L : s.heap.IsList a vs.toArray := ⟨_, e, rfl, n, rfl⟩
  have ha : a < s.heap.objs.size := Heap.lt_size e
  have hlen : vs.length = tl.length := by have := q.length; simpa using this.symm
  have Wk := Walks.list (prog := c.prog) (w := c.w) hh s.heap.objs.size a (Nat.ne_of_lt ha) vs.toArray
  refine wpAny_pyIter_list L ?_
  have I2 := I.ext (Ext.push (s := s) (o := { cls := .type "list_iterator", data := .fields #[.ref a, .int 0 0] }))
  generalize hIt : s.heap.objs.size = It at *
  have hnew : s.heap.get? It = none := Heap.get?_none_of_le (Nat.le_of_eq hIt)
  have hB : c.B.heap.get? It = none := (by cases hg : c.B.heap.get? It with | none => rfl | some o => (have := I.keep _ _ hg; rw [hnew] at this; cases this))
  have hγI : ∀ p ∈ γ.objs, p.1 ≠ It := fun p hp q => by
    have := (I.gh p hp).1; rw [q, hnew] at this; cases this
  refine codeAny_forLoop_any (fun n s' => ∃ i, n = tl.length + 1 - i ∧ i ≤ tl.length ∧ s'.heap.IsListIter It a i ∧ Inv c (J i) γ s' ∧ Lv i) ?_ (tl.length + 1) ⟨0, by omega, by omega, ⟨_, hIt ▸ Heap.get?_push_size _ rfl, rfl, rfl⟩, I2, h0⟩
  rintro n' s' ⟨i, rfl, hi, hst, I', hlv⟩
  have hLs : s'.heap.IsList a vs.toArray := ⟨_, I'.keep _ _ eB, rfl, n, rfl⟩
  obtain ⟨o0, ho0, hc0, hd0⟩ := id hst
  by_cases hlt : i < tl.length
  · refine Wk.item i s' _ _ (by simp only [List.size_toArray]; omega) ⟨hst, hLs⟩ fun v h' tk' hP hst' kp => ?_
    have kb : KeepBut It s'.heap h' := fun b o hb e => kp b o (by simpa using hb) e
    have I1 : Inv c (J i) γ { s' with heap := h', toks := tk' } := I'.chg ho0 hd0 hB hγI kb
    obtain ⟨o1, ho1, hc1, hd1⟩ := id hst'.1
    have hti : tl[i]? = some (tl[i]) := List.getElem?_eq_getElem hlt
    have hpi : (tl.map Pt.t)[i]? = some (.t tl[i]) := by rw [List.getElem?_map, hti]; rfl
    obtain ⟨v', hv', hq⟩ := q.get hpi
    have hvv : v' = v := by
      have h1 : vs[i]? = some v := by simpa using hP
      rw [h1] at hv'; cases hv'; rfl
    subst hvv
    obtain ⟨T, tvs, rfl, htB, hat⟩ := hq
    have ht : IsTup h' T tvs.toArray := by
      obtain ⟨oT, hoT, r⟩ := htB
      exact ⟨oT, I1.keep _ _ hoT, r⟩
    have hlT : xs.length = (tl[i]).length := (hl _ (List.getElem_mem hlt)).symm
    have I1' : Inv c (J i) ⟨γ.objs ++ [(It, o1)], h'⟩ { s' with heap := h', toks := tk' } := ⟨I1.amb, I1.keep, I1.rest, I1.frm, fun q hq => by
      rcases List.mem_append.mp hq with hq | hq
      · exact I1.gh q hq
      · rw [List.mem_singleton] at hq; subst hq; exact ⟨ho1, .inl ⟨_, hd1⟩⟩, .rfl'⟩
    refine wpAny_letOwnedTupleGo_listiter (s := { s' with heap := h', toks := tk' }) hst'.1 ?_
    obtain ⟨h1, h2⟩ := assignEach_names (env := c.env) xs
    obtain ⟨oT, hoT, hcT, nT, hdT⟩ := ht
    refine wpAny_assign_Tuple (s := { s' with heap := h', toks := tk' }) hh ⟨oT, hoT, hcT, nT, hdT⟩ (by rw [h1, List.size_toArray, ← hat.length, hlT]) h2 fun h'' hk => ?_
    have e2 : Ext { s' with heap := h', toks := tk' } { s' with heap := h'', toks := tk' } := .heap (s := { s' with heap := h', toks := tk' }) fun b o e => hk b o (Nat.ne_of_lt (Heap.lt_size e)) e
    refine assignNames xs (tl[i]) tvs (J i) _ hat hlT hsto (I1'.ext e2) fun s'' I'' => ?_
    refine wpAny_mono (hbody i (tl[i]) ⟨γ.objs ++ [(It, o1)], h'⟩ s'' hti hlv (fun q hq => ?_) I'') (fun f s₃ hf => ?_) fun _ _ x => x.elim
    · rcases List.mem_append.mp hq with hq | hq
      · exact .inl hq
      · rw [List.mem_singleton] at hq; subst hq; exact .inr hnew
    · cases f with
      | next =>
        obtain ⟨hl3, I3⟩ := hf
        refine ⟨tl.length + 1 - (i + 1), by omega, i + 1, rfl, hlt, ⟨o1, (I3.gh (_, o1) (List.mem_append_right _ (.head _))).1, hc1, hd1⟩, I3.ghost (fun q hq => List.mem_append_left _ hq) (I1.kt.trans I3.kt), hl3⟩
      | ret v => exact kr _ _ hf
      | brk => exact hf.elim
      | cont => exact hf.elim
  · have hin : i = tl.length := by omega
    subst hin
    rw [← hlen] at hst
    have hst2 : s'.heap.IsListIter It a vs.toArray.size := by rw [List.size_toArray]; exact hst
    refine Wk.done s' _ _ ⟨hst2, hLs⟩ fun h' tk' kp => ?_
    have kb : KeepBut It s'.heap h' := fun b o hb e => kp b o (by simpa using hb) e
    exact wpAny_execs_nil (k _ hlv (I'.chg ho0 hd0 hB hγI kb))
/-- isinstance(e, tuple) -/
theorem Exp.isiTup {e : PySem.Expr} {np tp pos : Pos} {l : List At} (he : Exp c σ γ e (.p (.t l))) (hbT : nsIn c.K mainGlobals "tuple" = some none := by rfl) (hkT : c.env.kindOf "tuple" = some .globalImplicit := by rfl)
    (hb : nsIn c.K mainGlobals "isinstance" = some none := by rfl) (hk : c.env.kindOf "isinstance" = some .globalImplicit := by rfl) (hs : isStarred e = false := by rfl) :
    Exp c σ γ (.Call (.Name "isinstance" np) [e, .Name "tuple" tp] [] pos) (vB true) :=
  isi_raw he (TT := "tuple") (by decide +kernel) hbT hkT (fun s v ⟨a, vs, q, ht, _⟩ => by
    subst q
    exact PyProof.Rows.call_isinstance_yes ht.typeIs (by rfl) (isSubtype_of_subB (by decide +kernel)) ⟨.rfl', rfl⟩) hb hk hs
/-- x.get(e, f) of a dict of the base -/
theorem Exp.dget {x : Str} {e f : PySem.Expr} {px apos pos : Pos} {d : Addr} {k : Int} {y z : Str} {g : Int → Option Value} (hx : σ.lookup x = some (.r d)) (hk : Seen c x) (hd : (d == sysModules) = false) (hm : c.B.heap.MapOf (intKind c.prog c.w) d g)
    (he : Exp c σ γ e (vI k)) (hf : Exp c σ γ f (vS y)) (hz : ∀ v, (∃ t, v = .str y t) → ∃ t, (g k).getD v = .str z t)
    (hs : isStarred e = false := by rfl) (hs' : isStarred f = false := by rfl) (hline : (apos.endLine == pos.line) = true := by rfl)
    (hdb : (x == ("__debug__" : Str)) = false := by decide) (hcd : (x == ("__classdict__" : Str)) = false := by decide) :
    Exp c σ γ (.Call (.Attribute (.Name x px) "get" apos) [e, f] [] pos) (vS z) := fun s I => by
  obtain ⟨o, es, ep, ho, hex, r⟩ := id hm
  have hms : ∀ h, KeepH s.heap h → h.MapOf (intKind c.prog c.w) d g := fun h kk => ⟨o, es, ep, kk _ _ (I.keep _ _ ho), hex, r⟩
  refine wpAny_Call_method (T := "dict") (id := "dict.get") (by rfl) (by rw [starEach_cons hs, starEach_cons hs']; rfl) hline F.plainAttrs_dict F.slot_dict_get F.type_dict_get (var_raw I hx hk (fun v q => ?_) hdb hcd)
  cases q
  refine ⟨(hms s.heap fun _ _ e => e).typeIs, fun b e => by cases e; exact ⟨o, I.keep _ _ ho, hex.2.1⟩, ?_⟩
  rw [starEach_cons hs, starEach_cons hs']
  refine wpAny_dict_get2 (knd := intKind c.prog c.w) hd (wpAny_mono (he s I) (fun kv s₁ ⟨e1, t, q1⟩ => wpAny_mono (hf s₁ (I.ext e1)) (fun fv s₂ ⟨e2, u, q2⟩ => ?_) fun _ _ x => x) fun _ _ x => x)
  subst q1
  obtain ⟨t', ht'⟩ := hz fv ⟨u, q2⟩
  refine ⟨k, g, by simp [intKind, Value.isInt], hms _ (e1.trans e2).keep, (e1.trans e2).trans .toks, t', ht'⟩
end
end Mine

namespace Mine
/-! ## sort of keys that do not grow: one path of the decisions -/
def runT {α : Type} (cmp : Nat → Nat → Bool) : KasT α → α
  | .ret a => a
  | .ask i j k => runT cmp (k (cmp i j))
theorem runT_bind {α β : Type} (cmp : Nat → Nat → Bool) (f : α → KasT β) : ∀ t : KasT α, runT cmp (t.bind f) = runT cmp (f (runT cmp t))
  | .ret a => rfl
  | .ask i j k => runT_bind cmp f (k (cmp i j))
structure KOk (n : Nat) (K : Nat → Int) (p : Array Nat) : Prop where
  size : p.size = n
  perm : p.Perm (List.range n).toArray
  key : ∀ i, i < n → K (p.getD i 0) = K i
theorem getD_rev {p : Array Nat} {i j : Nat} (hj : j ≤ p.size) (k : Nat) : (kas_rev p i j).getD k 0 = if i ≤ k ∧ k < j then p.getD (i + j - 1 - k) 0 else p.getD k 0 := by
  have h := getElem?_mirror_all (xs := p) (i := i) (j := j) hj k
  have e : ∀ (a : Array Nat) (m : Nat), a.getD m 0 = (a[m]?).getD 0 := fun a m => by simp
  rw [e]
  unfold kas_rev
  rw [h]
  split <;> rw [e]
theorem KOk.rev {n : Nat} {K : Nat → Int} {p : Array Nat} (h : KOk n K p) {i j : Nat} (hj : j ≤ n) (heq : ∀ k, i ≤ k → k < j → K k = K (j - 1)) : KOk n K (kas_rev p i j) := by
  refine ⟨by rw [kas_rev_size]; exact h.size, (mirror_perm _ _ _ _).trans h.perm, fun k hk => ?_⟩
  rw [getD_rev (by rw [h.size]; exact hj)]
  split
  · rename_i hc
    rw [h.key _ (by omega), heq k hc.1 hc.2, heq _ (by omega) (by omega)]
  · exact h.key k hk
section
variable {n : Nat} {K : Nat → Int}
abbrev ltK (K : Nat → Int) (i j : Nat) : Bool := decide (K i < K j)
/-- the ascending run of a list that does not grow is one of equals -/
theorem asc_run (NI : ∀ i j, i ≤ j → j < n → K j ≤ K i) {p : Array Nat} (h : KOk n K p) : ∀ (f m : Nat), 1 ≤ m → m + f ≤ n → m ≤ runT (ltK K) (kas_asc p f m) ∧ runT (ltK K) (kas_asc p f m) ≤ m + f ∧ ∀ k, m - 1 ≤ k → k < runT (ltK K) (kas_asc p f m) → K k = K (m - 1)
  | 0, m, h1, hf => ⟨Nat.le_refl _, Nat.le_refl _, fun k hk hk2 => by
      have : k = m - 1 := by simp only [kas_asc, runT] at hk2; omega
      rw [this]⟩
  | f + 1, m, h1, hf => by
    have e : runT (ltK K) (kas_asc p (f + 1) m) = if K (p.getD m 0) < K (p.getD (m - 1) 0) then m else runT (ltK K) (kas_asc p f (m + 1)) := by
      show runT (ltK K) (if ltK K (p.getD m 0) (p.getD (m - 1) 0) = true then .ret m else kas_asc p f (m + 1)) = _
      by_cases hc : K (p.getD m 0) < K (p.getD (m - 1) 0)
      · rw [if_pos (decide_eq_true hc), if_pos hc]; rfl
      · rw [if_neg (by show ¬ decide _ = true; rw [decide_eq_false hc]; simp), if_neg hc]
    rw [e, h.key m (by omega), h.key (m - 1) (by omega)]
    have hni := NI (m - 1) m (by omega) (by omega)
    split
    · refine ⟨Nat.le_refl _, by omega, fun k hk hk2 => ?_⟩
      have : k = m - 1 := by omega
      rw [this]
    · rename_i hc
      obtain ⟨i1, i2, i3⟩ := asc_run NI h f (m + 1) (by omega) (by omega)
      refine ⟨by omega, by omega, fun k hk hk2 => ?_⟩
      by_cases hk3 : k = m - 1
      · rw [hk3]
      · rw [i3 k (by omega) hk2, Nat.add_sub_cancel]; omega
theorem desc_run (NI : ∀ i j, i ≤ j → j < n → K j ≤ K i) : ∀ (f : Nat) (p : Array Nat) (m q : Nat), KOk n K p → q + 1 ≤ m → m + f = n → (∀ k, m - (q + 1) ≤ k → k < m → K k = K (m - 1)) →
    ∃ p' q', runT (ltK K) (kas_desc f p m q) = (p', n, q') ∧ KOk n K p' ∧ q' + 1 ≤ n ∧ ∀ k, n - (q' + 1) ≤ k → k < n → K k = K (n - 1)
  | 0, p, m, q, h, hq, hf, heq => by
    obtain rfl : m = n := by omega
    exact ⟨p, q, rfl, h, hq, heq⟩
  | f + 1, p, m, q, h, hq, hf, heq => by
    have hni := NI (m - 1) m (by omega) (by omega)
    have k1 := h.key m (by omega)
    have k2 := h.key (m - 1) (by omega)
    by_cases hc : K m < K (m - 1)
    · have e : runT (ltK K) (kas_desc (f + 1) p m q) = if q > 0 then runT (ltK K) (kas_desc f (kas_rev p (m - (q + 1)) m) (m + 1) 0) else runT (ltK K) (kas_desc f p (m + 1) 0) := by
        show runT (ltK K) (if ltK K (p.getD m 0) (p.getD (m - 1) 0) = true then _ else _) = _
        rw [if_pos (by show decide _ = true; rw [k1, k2]; exact decide_eq_true hc)]
        split <;> rfl
      rw [e]
      have hlast : ∀ k, m + 1 - (0 + 1) ≤ k → k < m + 1 → K k = K (m + 1 - 1) := fun k hk hk2 => by
        have : k = m := by omega
        rw [this]; rfl
      split
      · exact desc_run NI f _ (m + 1) 0 (h.rev (by omega) heq) (by omega) (by omega) hlast
      · exact desc_run NI f p (m + 1) 0 h (by omega) (by omega) hlast
    · have e : runT (ltK K) (kas_desc (f + 1) p m q) = runT (ltK K) (kas_desc f p (m + 1) (q + 1)) := by
        show runT (ltK K) (if ltK K (p.getD m 0) (p.getD (m - 1) 0) = true then _ else _) = _
        rw [if_neg (by show ¬ decide _ = true; rw [k1, k2]; simpa using hc)]
        show runT (ltK K) (if ltK K (p.getD (m - 1) 0) (p.getD m 0) = true then _ else _) = _
        rw [if_neg (by show ¬ decide _ = true; rw [k1, k2]; simpa using hni)]
      rw [e]
      refine desc_run NI f p (m + 1) (q + 1) h (by omega) (by omega) fun k hk hk2 => ?_
      rw [Nat.add_sub_cancel]
      by_cases hkm : k = m
      · rw [hkm]
      · have := heq k (by omega) (by omega); omega
/-- where the keys do not grow, the sort turns the list round, groups of equals apart -/
theorem sort_run (NI : ∀ i j, i ≤ j → j < n → K j ≤ K i) (hn : 2 ≤ n) : ∃ p, runT (ltK K) (kas_sort n) = p ∧ p.size = n ∧ p.Perm (List.range n).toArray ∧ ∀ i, i < n → K (p.getD i 0) = K (n - 1 - i) := by
  have h0 : KOk n K (List.range n).toArray := ⟨by simp, .refl _, fun i hi => by
    have : (List.range n).toArray.getD i 0 = i := by simp [hi]
    rw [this]⟩
  obtain ⟨a1, a2, a3⟩ := asc_run NI h0 (n - 1) 1 (by omega) (by omega)
  -- the whole list: all equal, or a descending run
  have fin : ∀ (p : Array Nat) (m : Nat), KOk n K p → 1 ≤ m → m < n → ∃ p', runT (ltK K) (kas_descPart m n p) = (n, p') ∧ p'.size = n ∧ p'.Perm (List.range n).toArray ∧ ∀ i, i < n → K (p'.getD i 0) = K (n - 1 - i) := by
    intro p m h h1 hm
    obtain ⟨p1, q1, e1, k1, hq1, heq⟩ := desc_run NI (n - (m + 1)) p (m + 1) 0 h (by omega) (by omega) fun k hk hk2 => by
      have : k = m := by omega
      rw [this]; rfl
    have tail : ∀ p2 : Array Nat, KOk n K p2 → ∃ p', runT (ltK K) (kas_tail3 n n p2) = (n, p') ∧ p'.size = n ∧ p'.Perm (List.range n).toArray ∧ ∀ i, i < n → K (p'.getD i 0) = K (n - 1 - i) := by
      intro p2 k2
      refine ⟨kas_rev p2 0 n, ?_, by rw [kas_rev_size]; exact k2.size, (mirror_perm _ _ _ _).trans k2.perm, fun i hi => ?_⟩
      · unfold kas_tail3
        rw [runT_bind, Nat.sub_self]; rfl
      · rw [getD_rev (by rw [k2.size]; exact Nat.le_refl _), if_pos ⟨Nat.zero_le _, hi⟩, k2.key _ (by omega)]
        congr 1; omega
    unfold kas_descPart
    rw [runT_bind, e1]
    simp only
    split
    · exact tail _ (k1.rev (Nat.le_refl _) heq)
    · exact tail _ k1
  have cnt : ∃ p', runT (ltK K) (kas_count n (List.range n).toArray) = (n, p') ∧ p'.size = n ∧ p'.Perm (List.range n).toArray ∧ ∀ i, i < n → K (p'.getD i 0) = K (n - 1 - i) := by
    unfold kas_count
    rw [runT_bind]
    generalize hm : runT (ltK K) (kas_asc (List.range n).toArray (n - 1) 1) = m at a1 a2 a3
    by_cases hmn : m = n
    · rw [if_pos (by simp [hmn])]
      refine ⟨_, by rw [hmn]; rfl, h0.size, h0.perm, fun i hi => ?_⟩
      rw [h0.key i hi, a3 i (by omega) (by omega), a3 (n - 1 - i) (by omega) (by omega)]
    · rw [if_neg (by simpa using hmn)]
      split
      · rename_i hgt
        have hcmp : ltK K ((List.range n).toArray.getD 0 0) ((List.range n).toArray.getD (m - 1) 0) = false := by
          refine decide_eq_false ?_
          rw [h0.key 0 (by omega), h0.key (m - 1) (by omega), a3 0 (by omega) (by omega), a3 (m - 1) (by omega) (by omega)]
          omega
        show ∃ p', runT (ltK K) (if ltK K ((List.range n).toArray.getD 0 0) ((List.range n).toArray.getD (m - 1) 0) = true then _ else _) = _ ∧ _
        rw [hcmp, if_neg (by simp)]
        exact fin _ m (h0.rev (by omega) fun k hk hk2 => by rw [a3 k (by omega) hk2, a3 (m - 1) (by omega) (by omega)]) a1 (by omega)
      · exact fin _ m h0 a1 (by omega)
  obtain ⟨p', e, r⟩ := cnt
  refine ⟨p', ?_, r⟩
  unfold kas_sort
  rw [runT_bind, e]
  simp only [Nat.lt_irrefl, if_false]
  rfl
end
end Mine

namespace Mine
/-- every question is of two of the first n; what comes out is P -/
def Asks {α : Type} (n : Nat) (P : α → Prop) : KasT α → Prop
  | .ret a => P a
  | .ask i j k => i < n ∧ j < n ∧ ∀ b, Asks n P (k b)
theorem Asks.bind {α β : Type} {n : Nat} {f : α → KasT β} {P : α → Prop} {R : β → Prop} : ∀ (t : KasT α), Asks n P t → (∀ a, P a → Asks n R (f a)) → Asks n R (t.bind f)
  | .ret a, h, hf => hf a h
  | .ask i j k, h, hf => ⟨h.1, h.2.1, fun b => Asks.bind (k b) (h.2.2 b) hf⟩
theorem kasWp_run {α : Type} {n : Nat} {P : α → Prop} {cmp : Nat → Nat → (Bool → Shared → Prop) → Shared → Prop} {lt : Nat → Nat → Bool} {Z : Shared → Prop} (h : ∀ i j C s, i < n → j < n → Z s → (∀ s', Z s' → C (lt i j) s') → cmp i j C s) {Q : α → Shared → Prop} :
    ∀ (t : KasT α) (s : Shared), Asks n P t → Z s → (∀ s', Z s' → Q (runT lt t) s') → t.kasWp cmp Q s
  | .ret a, s, _, hz, hq => hq s hz
  | .ask i j k, s, ha, hz, hq => h i j _ s ha.1 ha.2.1 hz fun s' hz' => kasWp_run h (k (lt i j)) s' (ha.2.2 _) hz' hq
def Bd (n : Nat) (p : Array Nat) : Prop := ∀ i, p.getD i 0 < n
theorem Bd.of {n : Nat} {p : Array Nat} (hn : 0 < n) (h : ∀ x ∈ p, x < n) : Bd n p := fun i => by
  have e : p.getD i 0 = (p[i]?).getD 0 := by simp
  rw [e]
  cases hp : p[i]? with
  | none => exact hn
  | some x => exact h x (Array.mem_of_getElem? hp)
theorem Bd.perm {n : Nat} {p q : Array Nat} (hn : 0 < n) (h : Bd n q) (hp : p.Perm q) : Bd n p := .of hn fun x hx => by
  have hx' : x ∈ q := hp.mem_iff.mp hx
  obtain ⟨i, hi⟩ := Array.mem_iff_getElem?.mp hx'
  have := h i
  have e : q.getD i 0 = (q[i]?).getD 0 := by simp
  rw [e, hi] at this
  exact this
section
variable {n : Nat} (hn : 0 < n)
include hn
theorem asks_asc {p : Array Nat} (h : Bd n p) : ∀ f m, Asks n (fun _ => True) (kas_asc p f m)
  | 0, m => trivial
  | f + 1, m => ⟨h _, h _, fun b => by
      cases b with
      | true => exact trivial
      | false => exact asks_asc h f (m + 1)⟩
theorem asks_desc : ∀ f (p : Array Nat) m q, Bd n p → Asks n (fun r => Bd n r.1) (kas_desc f p m q)
  | 0, p, m, q, h => h
  | f + 1, p, m, q, h => ⟨h _, h _, fun b => by
      cases b with
      | true =>
        show Asks n _ (if q > 0 then _ else _)
        split
        · exact asks_desc f _ _ _ (h.perm hn (mirror_perm _ _ _ _))
        · exact asks_desc f _ _ _ h
      | false => exact ⟨h _, h _, fun b => by
          cases b with
          | true => exact h
          | false => exact asks_desc f _ _ _ h⟩⟩
theorem asks_tail3 {p : Array Nat} (h : Bd n p) (m r : Nat) : Asks n (fun r => Bd n r.2) (kas_tail3 m r p) := by
  have h' : Bd n (kas_rev p 0 m) := h.perm hn (mirror_perm _ _ _ _)
  exact Asks.bind _ (asks_asc hn h' _ _) fun a _ => h'
theorem asks_descPart {p : Array Nat} (h : Bd n p) (m r : Nat) : Asks n (fun r => Bd n r.2) (kas_descPart m r p) := by
  refine Asks.bind _ (asks_desc hn _ _ _ _ h) fun a ha => ?_
  split
  · exact asks_tail3 hn (ha.perm hn (mirror_perm _ _ _ _)) _ _
  · exact asks_tail3 hn ha _ _
theorem asks_count {p : Array Nat} (h : Bd n p) (r : Nat) : Asks n (fun r => Bd n r.2) (kas_count r p) := by
  refine Asks.bind _ (asks_asc hn h _ _) fun a _ => ?_
  split
  · exact h
  · split
    · refine ⟨h _, h _, fun b => ?_⟩
      cases b with
      | true => exact h
      | false => exact asks_descPart hn (h.perm hn (mirror_perm _ _ _ _)) _ _
    · exact asks_descPart hn h _ _
theorem asks_place {p : Array Nat} (h : Bd n p) (k : Nat) : ∀ f l r, Asks n (fun _ => True) (kas_place p k f l r)
  | 0, l, r => trivial
  | f + 1, l, r => by
    unfold kas_place
    split
    · exact trivial
    · refine ⟨h _, h _, fun b => ?_⟩
      cases b with
      | true => exact asks_place h k f _ _
      | false => exact asks_place h k f _ _
theorem asks_bin : ∀ f (p : Array Nat) k, Bd n p → Asks n (fun _ => True) (kas_bin f p k)
  | 0, p, k, h => trivial
  | f + 1, p, k, h => Asks.bind _ (asks_place hn h k _ _ _) fun l _ => asks_bin f _ _ (h.perm hn (bubble_perm _ _ _))
theorem asks_sort : Asks n (fun _ => True) (kas_sort n) := by
  have h0 : Bd n (List.range n).toArray := .of hn fun x hx => by simpa using hx
  refine Asks.bind _ (asks_count hn h0 _) fun a ha => ?_
  split
  · exact asks_bin hn _ _ _ ha
  · exact trivial
end
end Mine

namespace Mine
/-! ## sorted by keys that are pairs of whole numbers -/
def lexB (x y : Int × Int) : Bool := decide (x.1 < y.1) || (x.1 == y.1 && decide (x.2 < y.2))
section
variable {prog : Program} {w : World} {A : Around} {E : Value → Shared → Prop} {s : Shared}
theorem pair_lt {x y : Addr} {ox oy : Obj} {p q : Int × Int} {t u t' u' : Tok} {n k : Nat} {C : Bool → Shared → Prop} (hx : s.heap.get? x = some ox) (dx : ox.data = .seq #[.int p.1 t, .int p.2 u] n) (hy : s.heap.get? y = some oy) (dy : oy.data = .seq #[.int q.1 t', .int q.2 u'] k)
    (h : C (lexB p q) s) : wpAny (model prog w) A (keyLt' (tuples' true) (.ref x) (.ref y)) C E s := by
  refine kat_lt hx dx hy dy ?_
  show KatLex prog w A true _ C [(.int p.1 t, .int q.1 t'), (.int p.2 u, .int q.2 u')] 0 s
  refine kat_cons (wpAny_eqBool_int ?_)
  by_cases h1 : p.1 = q.1
  · rw [show (p.1 == q.1) = true by simp [h1]]
    refine kat_yes (kat_cons (wpAny_eqBool_int ?_))
    by_cases h2 : p.2 = q.2
    · rw [show (p.2 == q.2) = true by simp [h2]]
      refine kat_yes (kat_nil ?_)
      have : lexB p q = false := by unfold lexB; rw [h1, h2]; simp
      rw [this] at h
      exact h
    · rw [show (p.2 == q.2) = false by simp [h2]]
      refine kat_no ?_
      show wpAny _ _ (oneLt' false _ _) _ _ _
      refine kat_one _ _ (lt_int ?_)
      have : lexB p q = decide (p.2 < q.2) := by unfold lexB; rw [h1]; simp
      rw [this] at h
      exact h
  · rw [show (p.1 == q.1) = false by simp [h1]]
    refine kat_no ?_
    show wpAny _ _ (oneLt' true _ _) _ _ _
    refine oneLt_int ?_
    have : lexB p q = decide (p.1 < q.1) := by unfold lexB; rw [show (p.1 == q.1) = false by simp [h1]]; simp
    rw [this] at h
    exact h
end
/-- keys that stand: pairs of whole numbers -/
def KeysAt (P : Addr → Obj → Prop) : List Value → List (Int × Int) → Prop := All2 fun k z => ∃ a o t u n, k = .ref a ∧ o.cls = .type "tuple" ∧ o.data = .seq #[.int z.1 t, .int z.2 u] n ∧ P a o
section
variable {prog : Program} {w : World} {A : Around} {s₀ : Shared} {h₀ : Heap} {L D kS : Addr} {m : Str → Option Value} {news : List (Addr × Obj)} {f : Value} {e1 : Nat}
/-- what a call of the key gives -/
def KeyCall (prog : Program) (w : World) (A : Around) (s₀ : Shared) (h₀ : Heap) (news : List (Addr × Obj)) (f v : Value) (z : Int × Int) : Prop :=
  ∀ s : Shared, (∀ b o, h₀.get? b = some o → s.heap.get? b = some o) → (∀ p ∈ news, s.heap.get? p.1 = some p.2) → s = { s₀ with heap := s.heap, toks := s.toks } →
    wpAny (model prog w) A (call f [v]) (fun k s' => Ext s s' ∧ ∃ a o t u n, k = .ref a ∧ s'.heap.get? a = some o ∧ o.cls = .type "tuple" ∧ o.data = .seq #[.int z.1 t, .int z.2 u] n) (fun _ _ => False) s
theorem keysT (hDk : D ≠ kS) {Fin : List Value → Nat → Shared → Prop} (Z : List (Int × Int))
    (fin : ∀ ks e ex (s : Shared), Fr h₀ L s.heap m → News h₀ L s.heap ((kS, seqObj "list" ks.toArray e) :: (D, seqObj "list" #[] e1) :: (ex ++ news)) → (∀ p ∈ ex ++ news, p.1 ≠ kS ∧ p.1 ≠ D) → KeysAt (fun a o => s.heap.get? a = some o) ks Z → s = { s₀ with heap := s.heap, toks := s.toks } → KeysAt (fun a o => (a, o) ∈ ex ∨ h₀.get? a = some o) ks Z → Fin ks e s) :
    ∀ (r : List Value) (zr : List (Int × Int)) (ks : List Value) (zs : List (Int × Int)) (e : Nat) (ex : List (Addr × Obj)) (s : Shared), zs ++ zr = Z → All2 (fun v z => KeyCall prog w A s₀ h₀ news f v z) r zr → Fr h₀ L s.heap m →
      News h₀ L s.heap ((kS, seqObj "list" ks.toArray e) :: (D, seqObj "list" #[] e1) :: (ex ++ news)) → (∀ p ∈ ex ++ news, p.1 ≠ kS ∧ p.1 ≠ D) → KeysAt (fun a o => (a, o) ∈ ex ∨ h₀.get? a = some o) ks zs → s = { s₀ with heap := s.heap, toks := s.toks } →
      KatKeys prog w A h₀ L m kS f Fin r ks e s
  | [], [], ks, zs, e, ex, s, hZ, _, F, N, hd, hk, hr => by
    rw [List.append_nil] at hZ
    subst hZ
    refine KatKeys.nil (fin ks e ex s F N hd (hk.mono fun k z ⟨a, o, t, u, n, h1, h2, h3, h4⟩ => ⟨a, o, t, u, n, h1, h2, h3, h4.elim (fun h => (N (a, o) (.tail _ (.tail _ (List.mem_append_left _ h)))).1) fun h => F.keep _ _ h⟩) hr hk)
  | v :: r, z :: zr, ks, zs, e, ex, s, hZ, hc, F, N, hd, hk, hr => by
    refine KatKeys.cons (wpAny_mono (hc.1 s F.keep (fun p hp => (N p (.tail _ (.tail _ (List.mem_append_right _ hp)))).1) hr) (fun k s' ⟨ext, a, o, t, u, n, hka, ho, hcl, hdt⟩ => ?_) fun _ _ x => x)
    have F1 := F.kept ext.keep
    have N1 := N.grown ext.keep
    have hr1 : s' = { s₀ with heap := s'.heap, toks := s'.toks } := by rw [ext.rest, hr]
    have hkS := (N1 (kS, seqObj "list" ks.toArray e) (.head _)).1
    have hD := (N1 (D, seqObj "list" #[] e1) (.tail _ (.head _))).1
    have hak : a ≠ kS := by rintro rfl; rw [hkS] at ho; cases ho; exact absurd hcl (by simp)
    have haD : a ≠ D := by rintro rfl; rw [hD] at ho; cases ho; exact absurd hcl (by simp)
    have haL : a ≠ L := by
      rintro rfl
      obtain ⟨oL, es, ep, hL, hdL, _⟩ := F1.ns
      rw [hL] at ho; cases ho; rw [hdL] at hdt; cases hdt
    -- the tuple is of the base, or new
    obtain ⟨ex', hsub, hN', hd', hin⟩ : ∃ ex', (∀ p ∈ ex, p ∈ ex') ∧ News h₀ L s'.heap ((kS, seqObj "list" ks.toArray e) :: (D, seqObj "list" #[] e1) :: (ex' ++ news)) ∧ (∀ p ∈ ex' ++ news, p.1 ≠ kS ∧ p.1 ≠ D) ∧ ((a, o) ∈ ex' ∨ h₀.get? a = some o) := by
      cases hb : h₀.get? a with
      | some o' =>
        have := F1.keep _ _ hb
        rw [ho] at this; cases this
        exact ⟨ex, fun _ h => h, N1, hd, .inr rfl⟩
      | none =>
        refine ⟨(a, o) :: ex, fun _ h => .tail _ h, fun p hp => ?_, fun p hp => ?_, .inl (.head _)⟩
        · rcases List.mem_cons.mp hp with rfl | hp
          · exact N1 _ (.head _)
          rcases List.mem_cons.mp hp with rfl | hp
          · exact N1 _ (.tail _ (.head _))
          rcases List.mem_cons.mp hp with rfl | hp
          · exact ⟨ho, haL, hb⟩
          · exact N1 p (.tail _ (.tail _ hp))
        · rcases List.mem_cons.mp hp with rfl | hp
          · exact ⟨hak, haD⟩
          · exact hd p hp
    refine KatBack.intro F1 hN' (UpdF.head fun p hp => ?_) fun h' c F2 N2 => ?_
    · rcases List.mem_cons.mp hp with rfl | hp
      · exact hDk
      · exact (hd' p hp).1
    · refine keysT hDk Z fin r zr (ks ++ [k]) (zs ++ [z]) c ex' _ (by rw [← hZ]; simp) hc.2 F2 N2 hd' ?_ (by rw [hr1])
      exact (hk.mono fun k z ⟨a, o, t, u, n, h1, h2, h3, h4⟩ => ⟨a, o, t, u, n, h1, h2, h3, h4.elim (fun h => .inl (hsub _ h)) .inr⟩).append ⟨⟨a, o, t, u, n, hka, hcl, hdt, hin⟩, trivial⟩
  | [], _ :: _, _, _, _, _, _, _, h, _, _, _, _, _ => h.elim
  | _ :: _, [], _, _, _, _, _, _, h, _, _, _, _, _ => h.elim
theorem katTups_of {h : Heap} : ∀ {ks : List Value} {zs : List (Int × Int)}, KeysAt (fun a o => h.get? a = some o) ks zs → ∃ fs, KatTups h ks fs ∧ fs.length = ks.length ∧ ∀ v ∈ fs, ∃ i t, v = .int i t
  | [], [], _ => ⟨[], trivial, rfl, by simp⟩
  | k :: ks, z :: zs, ⟨⟨a, o, t, u, n, h1, h2, h3, h4⟩, r⟩ => by
    obtain ⟨fs, q1, q2, q3⟩ := katTups_of r
    subst h1
    refine ⟨.int z.1 t :: fs, .cons h4 h2 h3 rfl q1, by simp [q2], fun v hv => ?_⟩
    rcases List.mem_cons.mp hv with rfl | hv
    · exact ⟨_, _, rfl⟩
    · exact q3 v hv
  | [], _ :: _, h => h.elim
  | _ :: _, [], h => h.elim
/-- sorted(l, key=f), where the keys do not grow -/
theorem sorted_pairs {E : Value → Shared → Prop} {Q : Value → Shared → Prop} {s : Shared} {l q : Addr} {vs : List Value} {Z : List (Int × Int)} {K : Nat → Int} (F : Fr h₀ L s.heap m) (N : News h₀ L s.heap news) (hl : s.heap.IsList l vs.toArray) (h2 : 2 ≤ vs.length) (h64 : vs.length < 64)
    (hc : All2 (fun v z => KeyCall prog w A.in1.in1 s h₀ news (.ref q) v z) vs Z) (hK : ∀ i j x y, Z[i]? = some x → Z[j]? = some y → lexB x y = decide (K i < K j)) (NI : ∀ i j, i ≤ j → j < vs.length → K j ≤ K i)
    (h : ∀ D c h' tk (p : Array Nat), Fr h₀ L h' m → News h₀ L h' ((D, listOf (p.toList.map fun i => vs.getD i Value.none).toArray c) :: news) → p.size = vs.length → p.Perm (List.range vs.length).toArray → (∀ i, i < vs.length → K (p.getD i 0) = K (vs.length - 1 - i)) → (∀ q ∈ news, q.1 < D) →
      Q (.ref D) { s with heap := h', toks := tk }) : wpAny (model prog w) A (call (.builtin "sorted") [.ref l] [(Str.ofString "key", .ref q)]) Q E s := by
  refine kat_sortedK (b := false) (f := .ref q) F N hl h2 h64 (ksk_s1 _ _) (fun x => ksk_l1 _ _) (fun x => ksk_t1 _ _) fun D kS e1 h' F' N' l0 l1 => ?_
  have hlz := hc.length
  refine keysT (news := news) (D := D) (e1 := e1) (s₀ := s) (Nat.ne_of_lt l0) Z (fun ks e ex s' F2 N2 hd hk hr hk2 => ?_) vs Z [] [] 0 [] _ rfl hc F' N' (fun p hp => ?_) trivial rfl
  · obtain ⟨fs, t1, t2, t3⟩ := katTups_of hk
    have hlk := hk.length
    refine kat_kind (T := .type "int") t1 (by omega) (fun v hv => ?_) (by rfl) ?_
    · obtain ⟨i, t, rfl⟩ := t3 v hv
      exact Looks.of_pure rfl
    · have hn : 0 < vs.length := by omega
      obtain ⟨p, hp1, hp2, hp3, hp4⟩ := sort_run (n := vs.length) (K := K) NI h2
      show (kas_sort vs.length).kasWp (kas_ask prog w A.in1.in1 (tuples' true) ks) _ s'
      refine kasWp_run (n := vs.length) (P := fun _ => True) (lt := ltK K) (Z := fun s'' => s'' = s') (fun i j C s'' hi hj hz hC => ?_) _ _ (asks_sort hn) rfl (fun s'' hz => ?_)
      · subst hz
        obtain ⟨x, hx⟩ : ∃ x, Z[i]? = some x := ⟨_, List.getElem?_eq_getElem (by omega)⟩
        obtain ⟨y, hy⟩ : ∃ y, Z[j]? = some y := ⟨_, List.getElem?_eq_getElem (by omega)⟩
        have gi : ∀ i x, Z[i]? = some x → ∃ a o t u n, ks.getD i Value.none = .ref a ∧ o.data = .seq #[.int x.1 t, .int x.2 u] n ∧ s''.heap.get? a = some o := by
          intro i x hx
          have : ∀ (ks : List Value) (Z : List (Int × Int)) (i : Nat), KeysAt (fun a o => s''.heap.get? a = some o) ks Z → Z[i]? = some x → ∃ a o t u n, ks.getD i Value.none = .ref a ∧ o.data = .seq #[.int x.1 t, .int x.2 u] n ∧ s''.heap.get? a = some o := by
            intro ks
            induction ks with
            | nil =>
              intro Z i hk hx
              match Z, hk with
              | [], _ => simp at hx
            | cons k ks ih =>
              intro Z i hk hx
              match Z, hk with
              | z :: Z, ⟨⟨a, o, t, u, n, h1, h2, h3, h4⟩, r⟩ =>
                cases i with
                | zero =>
                  simp only [List.getElem?_cons_zero, Option.some.injEq] at hx
                  subst hx
                  exact ⟨a, o, t, u, n, by simpa using h1, h3, h4⟩
                | succ i =>
                  simp only [List.getElem?_cons_succ] at hx
                  simpa using ih Z i r hx
          exact this ks Z i hk hx
        obtain ⟨a, o, t, u, n, e1', e2', e3'⟩ := gi i x hx
        obtain ⟨a', o', t', u', n', f1, f2, f3⟩ := gi j y hy
        unfold kas_ask
        rw [e1', f1]
        refine pair_lt e3' e2' f3 f2 ?_
        rw [hK i j x y hx hy]
        exact hC _ rfl
      · subst hz
        rw [hp1]
        refine KatFin.intro F2 N2 (UpdF.head fun p' hp' => ?_) fun h3 c3 F3 N3 => ?_
        · rcases List.mem_cons.mp hp' with rfl | hp'
          · exact Nat.ne_of_lt l0
          · exact (hd p' hp').1
        · refine KasFin.intro F3 N3 (UpdF.tail (Nat.ne_of_gt l0) (UpdF.head fun p' hp' => (hd p' hp').2)) fun h4 c4 F4 N4 => ?_
          have := h D c4 h4 s''.toks p F4 (fun q hq => ?_) hp2 hp3 hp4 l1
          · rw [hr]; exact this
          · rcases List.mem_cons.mp hq with rfl | hq
            · exact N4 _ (.tail _ (.head _))
            · exact N4 q (.tail _ (.tail _ (List.mem_append_right _ hq)))
  · have := l1 p (by simpa using hp)
    exact ⟨Nat.ne_of_lt (Nat.lt_trans this l0), Nat.ne_of_lt this⟩
end
end Mine

namespace Mine
noncomputable abbrev prog2 : Program := PySem.Challenge.rw_mr0163_02.row.prog
noncomputable abbrev K2 (w : World) : Frag := hd2.heap_39 w.params
abbrev dotS : Str := "."
/-- texts that get_line_col is asked of -/
structure Fit (x : Str) : Prop where
  len : x.length ≤ 640
  parts : ∀ p ∈ Txt.split x dotS, TxtOk p
def lc (x : Str) : Option (Int × Int) := lcOf (Txt.split x dotS)
theorem glc2 (w : World) (x : Str) (hx : Fit x) (m n : Int) (hlc : lc x = some (m, n)) : Fun prog2 w (K2 w) 1 45 [vS x] (.p (.t [.int m, .int n])) := by
  intro A s vs hA amb hargs
  match vs, hargs with
  | [v], ⟨⟨t, hv⟩, _⟩ =>
  subst hv
  refine enter (f := 45) (σ₀ := [("index", cS x)]) (binds := [("index", .str x t)]) (by rfl) (by rfl) (by have := hA.depth; omega) amb (by rfl) (by simp) ⟨⟨rfl, t, rfl⟩, trivial⟩ (fun s₁ I => ?_)
  refine W.mapInt hA.handled I (.var rfl rfl rfl) .cStr (by decide +kernel) hx.len hx.parts (.inl rfl) (.inl rfl) (fun m' n' hmn s' I' => ?_) (fun hn s' e e1 he => ?_) (by rfl) (by rfl) (by rfl) (by rfl)
  · have : some (m, n) = some (m', n') := hlc.symm.trans hmn
    cases this
    exact W.ret I' (.tup (xs := [.int m, .int n]) (by exact .cons (.var rfl rfl rfl) (.cons (.var rfl rfl rfl) .nil))) (fun v s'' e2 q => ⟨v, rfl, I'.toExt.trans e2, q⟩)
  · have : some (m, n) = none := hlc.symm.trans hn
    cases this
theorem isterm2 (w : World) (i : Int) : Fun prog2 w (K2 w) 1 24 [vI i] (vB (decide (i < 256))) := by
  intro A s vs hA amb hargs
  match vs, hargs with
  | [v], ⟨⟨t, hv⟩, _⟩ =>
  subst hv
  refine enter (f := 24) (σ₀ := [("x", cI i)]) (binds := [("x", .int i t)]) (by rfl) (by rfl) (by have := hA.depth; omega) amb (by rfl) (by simp) ⟨⟨rfl, t, rfl⟩, trivial⟩ (fun s₁ I => ?_)
  exact W.ret I (.cmpB (.var rfl rfl rfl) (.globI (by rfl) (by rfl)) .lt) (fun v s' e1 q => ⟨v, rfl, I.toExt.trans e1, q⟩)
theorem isnont2 (w : World) (i : Int) : Fun prog2 w (K2 w) 1 31 [vI i] (vB (decide (256 ≤ i))) := by
  intro A s vs hA amb hargs
  match vs, hargs with
  | [v], ⟨⟨t, hv⟩, _⟩ =>
  subst hv
  refine enter (f := 31) (σ₀ := [("x", cI i)]) (binds := [("x", .int i t)]) (by rfl) (by rfl) (by have := hA.depth; omega) amb (by rfl) (by simp) ⟨⟨rfl, t, rfl⟩, trivial⟩ (fun s₁ I => ?_)
  exact W.ret I (.cmpB (.var rfl rfl rfl) (.globI (by rfl) (by rfl)) .ge) (fun v s' e1 q => ⟨v, rfl, I.toExt.trans e1, q⟩)
theorem iseof2 (w : World) (i : Int) : Fun prog2 w (K2 w) 1 38 [vI i] (vB (i == 0)) := by
  intro A s vs hA amb hargs
  match vs, hargs with
  | [v], ⟨⟨t, hv⟩, _⟩ =>
  subst hv
  refine enter (f := 38) (σ₀ := [("x", cI i)]) (binds := [("x", .int i t)]) (by rfl) (by rfl) (by have := hA.depth; omega) amb (by rfl) (by simp) ⟨⟨rfl, t, rfl⟩, trivial⟩ (fun s₁ I => ?_)
  exact W.ret I (.cmpB (.var rfl rfl rfl) (.globI (by rfl) (by rfl)) .eq) (fun v s' e1 q => ⟨v, rfl, I.toExt.trans e1, q⟩)
end Mine

namespace Mine
def plainT : Str := Str.ofString "( ) [ ] : , ; + - * / | & < > = . % { } == != <= >= ~ ^ << >> **"
def moreT : Str := Str.ofString " += -= *= /= %= &= |= ^= <<= >>= **= // //= @ @= -> ... := !"
def ops : List Str := ["(", ")", "[", "]", ":", ",", ";", "+", "-", "*", "/", "|", "&", "<", ">", "=", ".", "%", "{", "}", "==", "!=", "<=", ">=", "~", "^", "<<", ">>", "**", "+=", "-=", "*=", "/=", "%=", "&=", "|=", "^=", "<<=", ">>=", "**=", "//", "//=", "@", "@=", "->", "...", ":=", "!"].map Str.ofString
def qm : Str := Str.ofString "?"
def spl : List Str := List.replicate 7 qm ++ ops ++ List.replicate 201 qm
theorem ops_split : Builtin.Str.partsBetween (plainT ++ moreT) (Builtin.Str.occurrences (plainT ++ moreT) (Str.ofString " ") 0 (plainT ++ moreT).length ((plainT ++ moreT).length + 1)) (Str.ofString " ").length = ops := by decide +kernel
theorem ops_len : ops.length = 48 := by decide +kernel
theorem spellings_ok (w : World) : ∀ A s, AOk 1 A → Amb (K2 w) s.heap → codeAny (model prog2 w) A (.call (.ref 52) ⟨[], []⟩) (fun r s' => ∃ v, r = .ok (.ret v) ∧ Ext s s' ∧ (Vl.l (spl.map pS)).New s s' v) s := by
  intro A s hA amb
  refine enter (f := 52) (σ₀ := []) (binds := []) (by rfl) (by rfl) (by have := hA.depth; omega) amb (by rfl) (by simp) trivial (fun s₁ I => ?_)
  refine W.assign (p := pS plainT) I Exp.cStr (.inl rfl) (fun s₂ I2 => ?_)
  refine W.assign (p := pS moreT) I2 Exp.cStr (.inl rfl) (fun s₃ I3 => ?_)
  have e : spl.map pS = (List.replicate ((7 : Int)).toNat (pS qm) ++ ops.map pS) ++ List.replicate ((201 : Int)).toNat (pS qm) := by
    unfold spl; simp only [List.map_append, List.map_replicate]; rfl
  rw [e]
  have hol := ops_len
  refine W.retF I3 (.addL (.addL (.mulL (.list (ps := [pS qm]) (by exact .cons .cStr .nil)) .cInt (by decide) (by decide)) (ExpF.split (x := plainT ++ moreT) (y := Str.ofString " ") (.addS (.var rfl rfl rfl) (.var rfl rfl rfl) (by decide +kernel)) .cStr (by decide +kernel) (by decide +kernel) (by decide +kernel) (by decide +kernel) ops_split (by rw [hol]; decide)).exp ?_) (.mulL (.list (ps := [pS qm]) (by exact .cons .cStr .nil)) .cInt (by decide) (by decide)) ?_) (fun b s' e1 hb q => ⟨_, rfl, I3.toExt.trans e1, _, rfl, none_from I3.keep hb, q⟩)
  · rw [List.length_replicate, List.length_map, hol]; unfold sizeLine; decide
  · rw [List.length_append, List.length_replicate, List.length_replicate, List.length_map, hol]; unfold sizeLine; decide
end Mine

namespace Mine
section
variable {c : Cx} {σ σ' : List (Str × Ct)} {γ : Gh} {s : Shared}
/-- a call without arguments -/
theorem ExpF.call0 {n : Nat} {f : Addr} {nm : Str} {np pos : Pos} {ps : List Pt} (hF : ∀ A s, AOk n A → Amb c.K s.heap → codeAny c.M A (.call (.ref f) ⟨[], []⟩) (fun r s' => ∃ v, r = .ok (.ret v) ∧ Ext s s' ∧ (Vl.l ps).New s s' v) s) (hA : AOk n c.A)
    (hg : nsIn c.K mainGlobals nm = some (some (.ref f))) (hk : c.env.kindOf nm = some .globalImplicit) (hfn : isDef c.K f = true)
    (hd : (nm == ("__debug__" : Str)) = false := by decide) : ExpF c σ γ (.Call (.Name nm np) [] [] pos) ps := fun s I => by
  obtain ⟨o, fd, hof, hfd⟩ := isDef_of I.ambH.inK hfn
  obtain ⟨oc, od, odt, osl⟩ := o
  refine wpAny_Call_NameR (nameK I hg hk (callWith_F0 ⟨oc, od, fd, osl, by rw [hof]; simp only at hfd; rw [hfd]⟩ ?_) hd)
  exact wpAny_call (codeAny_mono (hF c.A s hA I.ambH) fun r s' ⟨v, hr, e2, y⟩ => by subst hr; exact ⟨e2, y⟩)
/-- over a list that a name bears -/
theorem Src.name {x : Str} {px : Pos} {a : Addr} {ps : List Pt} (hh : c.A.handled = none) (hx : σ.lookup x = some (.l a ps)) (hk : Seen c x)
    (hd : (x == ("__debug__" : Str)) = false := by decide) (hcd : (x == ("__classdict__" : Str)) = false := by decide) : Src c σ γ (.Name x px) ps (fun _ b => b = a) :=
  .list hh fun s I => var_raw I hx hk (fun v q => ⟨.rfl', a, q.1, rfl, q.2⟩) hd hcd
end
structure DS where
  rows : List Str
  str : List (Str × Int)
  gap : Nat
def placeS (n m : Nat) : Str := Str.ofString (toString (n : Int)) ++ Str.ofString "." ++ Str.ofString (toString (m : Int))
def sp (n : Nat) : Str := ⟨(List.replicate n 32).toArray⟩
def sizeOf51 (x : Int) : Int := (if x < 0 then -x else x).fdiv 51
def kindD (x : Int) : Int := if x.fmod 51 < 48 then 7 + x.fmod 51 else 1 + sizeOf51 x
def lastR (d : DS) : Str := d.rows.getLastD Str.empty
def splK (k : Int) : Str := spl.getD k.toNat qm
def stepD (d : DS) (x : Int) : DS :=
  if x.fmod 51 = 48 then ⟨d.rows ++ List.replicate (1 + (sizeOf51 x).fmod 3).toNat Str.empty, d.str, 0⟩
  else if x.fmod 51 = 49 then ⟨d.rows, d.str, (d.gap + 1 + (sizeOf51 x).fmod 10 : Int).toNat⟩
  else if kindD x < 256 then ⟨d.rows.dropLast ++ [lastR d ++ sp d.gap ++ splK (kindD x)], d.str ++ [(placeS d.rows.length ((lastR d).length + d.gap), kindD x)], 0⟩
  else ⟨d.rows, d.str ++ [(placeS d.rows.length ((lastR d).length + d.gap), kindD x)], d.gap⟩
def drawnD (ns : List Int) : DS := ns.foldl stepD ⟨[Str.empty], [], 0⟩
def tokP (t : Str × Int) : Pt := .t [.str t.1, .int t.2]
structure DOk (i : Nat) (d : DS) : Prop where
  ne : d.rows ≠ []
  len : d.rows.length ≤ 1 + 3 * i
  row : ∀ r ∈ d.rows, r.length + d.gap ≤ 13 * i
  str : d.str.length ≤ i
theorem size_nonneg (x : Int) : 0 ≤ sizeOf51 x := Int.fdiv_nonneg (by split <;> omega) (by decide)
theorem fmod_bd (x : Int) {k : Int} (h : 0 < k) : 0 ≤ x.fmod k ∧ x.fmod k < k := ⟨Int.fmod_nonneg_of_pos x h, Int.fmod_lt_of_pos x h⟩
theorem spl_len : ∀ r ∈ spl, r.length ≤ 3 := by decide +kernel
theorem splK_len (k : Int) : (splK k).length ≤ 3 := by
  unfold splK
  rw [List.getD_eq_getElem?_getD]
  cases h : spl[k.toNat]? with
  | none => show qm.length ≤ 3; decide +kernel
  | some r => exact spl_len r (List.mem_of_getElem? h)
theorem sp_len (n : Nat) : (sp n).length = n := by simp [sp, Str.length]
theorem lastR_mem {d : DS} (h : d.rows ≠ []) : lastR d ∈ d.rows := by
  unfold lastR
  cases hr : d.rows with
  | nil => exact absurd hr h
  | cons a r => rw [List.getLastD_cons]; exact List.getLastD_mem_cons
theorem stepD_ok {i : Nat} {d : DS} (x : Int) (h : DOk i d) : DOk (i + 1) (stepD d x) := by
  have h3 := fmod_bd (sizeOf51 x) (k := 3) (by decide)
  have h10 := fmod_bd (sizeOf51 x) (k := 10) (by decide)
  have hlast := h.row _ (lastR_mem h.ne)
  unfold stepD
  split
  · refine ⟨by simp [h.ne], ?_, fun r hr => ?_, Nat.le_succ_of_le h.str⟩
    · have := h.len
      simp only [List.length_append, List.length_replicate]; omega
    · rcases List.mem_append.mp hr with hr | hr
      · have := h.row r hr; simp only; omega
      · rw [List.mem_replicate] at hr; rw [hr.2]; show 0 + 0 ≤ _; omega
  · split
    · refine ⟨h.ne, by have := h.len; simp only; omega, fun r hr => ?_, Nat.le_succ_of_le h.str⟩
      have := h.row r hr; simp only; omega
    · split
      · refine ⟨by simp, ?_, fun r hr => ?_, by have := h.str; simp; omega⟩
        · have := h.len; have := List.length_pos_iff.mpr h.ne; simp; omega
        · rcases List.mem_append.mp hr with hr | hr
          · have := h.row r (List.dropLast_subset _ hr); simp only; omega
          · rw [List.mem_singleton] at hr
            have := splK_len (kindD x)
            rw [hr, Str.length_append, Str.length_append, sp_len]; simp only; omega
      · refine ⟨h.ne, by have := h.len; simp only; omega, fun r hr => ?_, by have := h.str; simp; omega⟩
        have := h.row r hr; simp only; omega
theorem foldl_snoc (ns : List Int) (i : Nat) (x : Int) (d : DS) (h : ns[i]? = some x) : (ns.take (i + 1)).foldl stepD d = stepD ((ns.take i).foldl stepD d) x := by
  rw [List.take_add_one, h]; simp [List.foldl_append]
theorem drawn_ok' (ns : List Int) : ∀ i, DOk i ((ns.take i).foldl stepD ⟨[Str.empty], [], 0⟩) := by
  intro i
  induction i with
  | zero => exact ⟨by simp, by simp, fun r hr => by rw [List.take_zero, List.foldl_nil] at *; rw [List.mem_singleton] at hr; rw [hr]; exact Nat.le_refl _, by simp⟩
  | succ i ih =>
    cases h : ns[i]? with
    | none =>
      have : ns.take (i + 1) = ns.take i := by rw [List.take_add_one, h]; simp
      rw [this]
      exact ⟨ih.ne, by have := ih.len; omega, fun r hr => by have := ih.row r hr; omega, by have := ih.str; omega⟩
    | some x => rw [foldl_snoc ns i x _ h]; exact stepD_ok x ih
theorem strEmpty : Str.ofString "" = Str.empty := by decide
/-- rows and stream in a tuple -/
def IsDrawn (h : Heap) (v : Value) (rows : List Str) (str : List (Str × Int)) (P : Addr → Prop) : Prop := ∃ t a b, v = .ref t ∧ IsTup h t #[.ref a, .ref b] ∧ P a ∧ P b ∧ a ≠ b ∧ Lst h a (rows.map pS) ∧ Lst h b (str.map tokP)
theorem num_len {n : Int} (h0 : 0 ≤ n) (h1 : n < 10 ^ 10) : (Str.ofString (toString n)).length ≤ 100 := Nat.le_trans (KT.len_num h0 h1) (by decide)
set_option maxHeartbeats 2000000 in
theorem drawn_ok (w : World) (ns : List Int) (hns : ns.length ≤ 18) : ∀ A s b, AOk 2 A → Amb (K2 w) s.heap → Lst s.heap b (ns.map pI) → codeAny (model prog2 w) A (.call (.ref 59) ⟨[.ref b], []⟩)
    (fun r s' => ∃ v, r = .ok (.ret v) ∧ Ext s s' ∧ IsDrawn s'.heap v (drawnD ns).rows ((drawnD ns).str ++ [(placeS ((drawnD ns).rows.length + 1) 0, 0)]) (fun a => s.heap.get? a = none)) s := by
  intro A s b hA amb hL
  refine enter (f := 59) (σ₀ := [("numbers", .l b (ns.map pI))]) (binds := [("numbers", .ref b)]) (by rfl) (by rfl) (by have := hA.depth; omega) amb (by rfl) (by simp) ⟨⟨rfl, rfl, hL⟩, trivial⟩ (fun s₁ I => ?_)
  refine W.assignF I (.call0 (n := 1) (spellings_ok w) (AOk.deeper hA) (by rfl) (by rfl) (by rfl)) (.inl rfl) (fun aP s₂ haP I2 => ?_)
  refine W.assignF I2 (.list (ps := [pS Str.empty]) (by exact .cons .cStr .nil)) (.inl rfl) (fun aR s₃ haR I3 => ?_)
  refine W.assignF I3 (.list (ps := []) (by exact .nil)) (.inl rfl) (fun aS s₄ haS I4 => ?_)
  refine W.assign I4 Exp.cInt (.inl rfl) (fun s₅ I5 => ?_)
  have hRB := none_from I2.keep haR
  have hSB := none_from I3.keep haS
  have hbR : b ≠ aR := by
    rintro rfl
    obtain ⟨vs, ⟨n, e⟩, _⟩ := I2.list (x := "numbers") rfl rfl
    rw [haR] at e; cases e
  have hbS : b ≠ aS := by
    rintro rfl
    obtain ⟨vs, ⟨n, e⟩, _⟩ := I3.list (x := "numbers") rfl rfl
    rw [haS] at e; cases e
  have hPR : aP ≠ aR := by
    rintro rfl
    obtain ⟨vs, ⟨n, e⟩, _⟩ := I2.list (x := "spellings") rfl rfl
    rw [haR] at e; cases e
  have hPS : aP ≠ aS := by
    rintro rfl
    obtain ⟨vs, ⟨n, e⟩, _⟩ := I3.list (x := "spellings") rfl rfl
    rw [haS] at e; cases e
  have hRS : aR ≠ aS := by
    rintro rfl
    obtain ⟨vs, ⟨n, e⟩, _⟩ := I3.list (x := "rows") rfl rfl
    rw [haS] at e; cases e
  have hsplen : spl.length = 256 := by decide +kernel
  refine W.for_ (Rt := fun _ _ => False) (fun i => [("gap", cI (((ns.take i).foldl stepD ⟨[Str.empty], [], 0⟩).gap : Nat)), ("stream", .l aS (((ns.take i).foldl stepD ⟨[Str.empty], [], 0⟩).str.map tokP)), ("rows", .l aR (((ns.take i).foldl stepD ⟨[Str.empty], [], 0⟩).rows.map pS)), ("spellings", .l aP (spl.map pS)), ("numbers", .l b (ns.map pI))]) I5 (by exact Src.name hA.handled rfl rfl) (.inl rfl) (fun i p γ' s' hp hγ I6 => ?_) (fun s' I6 => ?_) (fun v s' h => h.elim)
  · rw [List.getElem?_map] at hp
    cases hx : ns[i]? with
    | none => rw [hx] at hp; cases hp
    | some x =>
    rw [hx] at hp; cases hp
    have hi : i < 18 := Nat.lt_of_lt_of_le (List.getElem?_eq_some_iff.mp hx).1 hns
    have hok := drawn_ok' ns i
    rw [foldl_snoc ns i x _ hx]
    generalize (ns.take i).foldl stepD ⟨[Str.empty], [], 0⟩ = d at hok I6 ⊢
    have hrl := hok.len
    have hsl := hok.str
    have hlast := hok.row _ (lastR_mem hok.ne)
    have h3 := fmod_bd (sizeOf51 x) (k := 3) (by decide)
    have h10 := fmod_bd (sizeOf51 x) (k := 10) (by decide)
    have hsz := size_nonneg x
    have hp51 := fmod_bd x (k := 51) (by decide)
    have hγR : ∀ q ∈ γ'.objs, q.1 ≠ aR := fun q hq => (hγ q hq).elim (fun h => by cases h) fun h => h.elim (fun h => by
      rintro rfl
      obtain ⟨vs, ⟨n, e⟩, _⟩ := I5.list (x := "rows") rfl rfl
      rw [h] at e; cases e) fun h => by rw [h]; exact hbR
    have hγS : ∀ q ∈ γ'.objs, q.1 ≠ aS := fun q hq => (hγ q hq).elim (fun h => by cases h) fun h => h.elim (fun h => by
      rintro rfl
      obtain ⟨vs, ⟨n, e⟩, _⟩ := I5.list (x := "stream") rfl rfl
      rw [h] at e; cases e) fun h => by rw [h]; exact hbS
    refine W.assign I6 (.mod (.var rfl rfl rfl) .cInt (by decide)) (.inl rfl) (fun s₇ I7 => ?_)
    refine W.assign (p := pI (sizeOf51 x)) I7 (.fdiv (.abs (.var rfl rfl rfl)) .cInt (by decide) (by decide)) (.inl rfl) (fun s₈ I8 => ?_)
    refine W.ite I8 (.cmp (.var rfl rfl rfl) .cInt .eq) (fun s₉ I9 => ?_)
    have hlastI : (d.rows.map pS)[ix (-1) (d.rows.map pS).length]? = some (pS (lastR d)) := by
      have hpos := List.length_pos_iff.mpr hok.ne
      have e0 : ix (-1) (d.rows.map pS).length = d.rows.length - 1 := by unfold ix; rw [if_pos (by decide), List.length_map]; omega
      rw [e0, List.getElem?_map, ← List.getLast?_eq_getElem?]
      unfold lastR
      rw [List.getLastD_eq_getLast?]
      cases hh : d.rows.getLast? with
      | none => rw [List.getLast?_eq_none_iff] at hh; exact absurd hh hok.ne
      | some r => rfl
    have hpos := List.length_pos_iff.mpr hok.ne
    by_cases h48 : x.fmod 51 = 48
    · have hst : stepD d x = ⟨d.rows ++ List.replicate (1 + (sizeOf51 x).fmod 3).toNat Str.empty, d.str, 0⟩ := by unfold stepD; rw [if_pos h48]
      rw [hst, show ((x.fmod 51 : Int) == 48) = true by rw [h48]; rfl, if_pos rfl]
      refine W.extend I9 rfl rfl (.mulL (.list (ps := [pS Str.empty]) (by exact .cons .cStr .nil)) (.add .cInt (.mod (.var rfl rfl rfl) .cInt (by decide))) (by omega) (by omega)) hRB hγR (by rw [List.length_map, List.length_replicate]; omega) (fun s₁₀ I10 => ?_)
      refine W.assign I10 Exp.cInt (.inl rfl) (fun s₁₁ I11 => W.nil (W.nil (I11.sub ?_)))
      simp only [List.forall_mem_cons]
      refine ⟨rfl, ?_, ?_, ?_, ?_, by simp⟩
      · show some (setL aR _ (.l aS _)) = _; simp [setL, hRS.symm]
      · show some (setL aR _ (.l aR _)) = _; simp [setL]
      · show some (setL aR _ (.l aP _)) = _; simp [setL, hPR]
      · show some (setL aR _ (.l b _)) = _; simp [setL, hbR]
    · rw [show ((x.fmod 51 : Int) == 48) = false by simp [h48], if_neg (by simp)]
      refine W.ite I9 (.cmp (.var rfl rfl rfl) .cInt .eq) (fun s₁₀ I10 => ?_)
      by_cases h49 : x.fmod 51 = 49
      · have hst : stepD d x = ⟨d.rows, d.str, (d.gap + 1 + (sizeOf51 x).fmod 10 : Int).toNat⟩ := by unfold stepD; rw [if_neg h48, if_pos h49]
        rw [hst, show ((x.fmod 51 : Int) == 49) = true by rw [h49]; rfl, if_pos rfl]
        have hg : (((d.gap + 1 + (sizeOf51 x).fmod 10 : Int).toNat : Nat) : Int) = d.gap + 1 + (sizeOf51 x).fmod 10 := by omega
        refine W.assign (p := pI (((d.gap + 1 + (sizeOf51 x).fmod 10 : Int).toNat : Nat) : Int)) I10 (by rw [hg]; exact .add (.add (.var rfl rfl rfl) .cInt) (.mod (.var rfl rfl rfl) .cInt (by decide))) (.inl rfl) (fun s₁₁ I11 => W.nil (W.nil (W.nil (I11.sub ?_))))
        simp only [List.forall_mem_cons]
        exact ⟨rfl, rfl, rfl, rfl, rfl, by simp⟩
      · rw [show ((x.fmod 51 : Int) == 49) = false by simp [h49], if_neg (by simp)]
        refine W.assign (p := pI (kindD x)) I10 (.ite (b := decide (x.fmod 51 < 48)) (.cmp (.var rfl rfl rfl) .cInt .lt) (fun hb => ?_) (fun hb => ?_)) (.inl rfl) (fun s₁₁ I11 => ?_)
        · have : kindD x = 7 + x.fmod 51 := by unfold kindD; rw [if_pos (of_decide_eq_true hb)]
          rw [this]; exact .add .cInt (.var rfl rfl rfl)
        · have : kindD x = 1 + sizeOf51 x := by unfold kindD; rw [if_neg (of_decide_eq_false hb)]
          rw [this]; exact .add .cInt (.var rfl rfl rfl)
        have hk0 : 0 ≤ kindD x := by unfold kindD; split <;> omega
        refine W.append (p := tokP (placeS d.rows.length ((lastR d).length + d.gap), kindD x)) I11 rfl rfl (.tup (xs := [.str (placeS d.rows.length ((lastR d).length + d.gap)), .int (kindD x)]) (by
          exact .cons (by
            unfold placeS
            rw [Int.natCast_add]
            refine .addS (.addS (.str (.lenN (.var rfl rfl rfl) (List.length_map ..) (by omega)) (by omega)) .cStr ?_) (.str (.add (.lenS (.item (.var rfl rfl rfl) (.neg .cInt) hlastI (by rw [List.length_map]; omega) (by decide)) (by omega)) (.var rfl rfl rfl)) (by omega)) ?_
            · have h1 := num_len (n := (d.rows.length : Int)) (by omega) (by omega)
              have h2 : (Str.ofString ".").length = 1 := by decide
              unfold sizeLine; omega
            · have h1 := num_len (n := (d.rows.length : Int)) (by omega) (by omega)
              have h3 := num_len (n := ((lastR d).length : Int) + (d.gap : Int)) (by omega) (by omega)
              have h2 : (Str.ofString ".").length = 1 := by decide
              rw [Str.length_append]
              unfold sizeLine; omega) (.cons (.var rfl rfl rfl) .nil))) hSB hγS (by rw [List.length_map]; omega) (fun s₁₂ I12 => ?_)
        have I12' : Inv _ [("kind", cI (kindD x)), ("gap", cI (d.gap : Nat)), ("stream", .l aS ((d.str ++ [(placeS d.rows.length ((lastR d).length + d.gap), kindD x)]).map tokP)), ("rows", .l aR (d.rows.map pS)), ("spellings", .l aP (spl.map pS)), ("numbers", .l b (ns.map pI))] γ' s₁₂ := I12.sub (by
          simp only [List.forall_mem_cons]
          refine ⟨rfl, rfl, ?_, ?_, ?_, ?_, by simp⟩
          · show some (setL aS _ (.l aS _)) = _; simp [setL]
          · show some (setL aS _ (.l aR _)) = _; simp [setL, hRS]
          · show some (setL aS _ (.l aP _)) = _; simp [setL, hPS]
          · show some (setL aS _ (.l b _)) = _; simp [setL, hbS])
        refine W.ite I12' (.cmp (.var rfl rfl rfl) (.lenN (n := 256) (.var rfl rfl rfl) (by rw [List.length_map]; exact hsplen) (by decide)) .lt) (fun s₁₃ I13 => ?_)
        by_cases hk : kindD x < 256
        · have hst : stepD d x = ⟨d.rows.dropLast ++ [lastR d ++ sp d.gap ++ splK (kindD x)], d.str ++ [(placeS d.rows.length ((lastR d).length + d.gap), kindD x)], 0⟩ := by unfold stepD; rw [if_neg h48, if_neg h49, if_pos hk]
          rw [hst, show decide (kindD x < ((256 : Nat) : Int)) = true by exact decide_eq_true hk, if_pos rfl]
          have hspI : (spl.map pS)[ix (kindD x) (spl.map pS).length]? = some (pS (splK (kindD x))) := by
            have e0 : ix (kindD x) (spl.map pS).length = (kindD x).toNat := by unfold ix; rw [if_neg (by omega)]
            have hlt : (kindD x).toNat < spl.length := by rw [hsplen]; omega
            rw [e0, List.getElem?_map, List.getElem?_eq_getElem hlt]
            unfold splK
            rw [List.getD_eq_getElem?_getD, List.getElem?_eq_getElem hlt]; rfl
          have hspl3 := splK_len (kindD x)
          refine W.setLast (p := pS (lastR d ++ sp d.gap ++ splK (kindD x))) (a := aR) (ps := d.rows.map pS) I13 rfl rfl ?_ (.neg .cInt) (by simpa using hok.ne) hRB hγR (by rw [List.length_map]; omega) (fun s₁₄ I14 => ?_)
          · refine .addS (.addS (.item (ps := d.rows.map pS) (.var rfl rfl rfl) (.neg .cInt) hlastI (by rw [List.length_map]; omega) (by decide)) (.mulS (d := 32) (i := (d.gap : Int)) .cStr (.var rfl rfl rfl) (by omega)) ?_) (.item (ps := spl.map pS) (.var rfl rfl rfl) (.var rfl rfl rfl) hspI (by omega) (by omega)) ?_
            · have := sp_len d.gap
              show (lastR d).length + (sp d.gap).length ≤ _
              unfold sizeLine; omega
            · have := sp_len d.gap
              show (lastR d ++ sp d.gap).length + _ ≤ _
              rw [Str.length_append]
              unfold sizeLine; omega
          · refine W.assign I14 Exp.cInt (.inl rfl) (fun s₁₅ I15 => W.nil (W.nil (W.nil (W.nil (I15.sub ?_)))))
            simp only [List.forall_mem_cons]
            refine ⟨rfl, ?_, ?_, ?_, ?_, by simp⟩
            · show some (setL aR _ (.l aS _)) = _; simp [setL, hRS.symm]
            · show some (setL aR _ (.l aR _)) = _; simp [setL, List.map_dropLast]
            · show some (setL aR _ (.l aP _)) = _; simp [setL, hPR]
            · show some (setL aR _ (.l b _)) = _; simp [setL, hbR]
        · have hst : stepD d x = ⟨d.rows, d.str ++ [(placeS d.rows.length ((lastR d).length + d.gap), kindD x)], d.gap⟩ := by unfold stepD; rw [if_neg h48, if_neg h49, if_neg hk]
          rw [hst, show decide (kindD x < ((256 : Nat) : Int)) = false by exact decide_eq_false hk, if_neg (by simp)]
          refine W.nil (W.nil (W.nil (W.nil (I13.sub ?_))))
          simp only [List.forall_mem_cons]
          exact ⟨rfl, rfl, rfl, rfl, rfl, by simp⟩
  · rw [List.length_map, List.take_length] at I6
    have hok := drawn_ok' ns ns.length
    rw [List.take_length] at hok
    change Inv _ [("gap", cI ((drawnD ns).gap : Nat)), ("stream", .l aS ((drawnD ns).str.map tokP)), ("rows", .l aR ((drawnD ns).rows.map pS)), ("spellings", .l aP (spl.map pS)), ("numbers", .l b (ns.map pI))] _ _ at I6
    change DOk _ (drawnD ns) at hok
    have hrl := hok.len
    have hsl := hok.str
    refine W.append (p := tokP (placeS ((drawnD ns).rows.length + 1) 0, 0)) I6 rfl rfl (.tup (xs := [.str (placeS ((drawnD ns).rows.length + 1) 0), .int 0]) (by
      exact .cons (by
        unfold placeS
        rw [Int.natCast_add]
        have e0 : Str.ofString (toString (((drawnD ns).rows.length : Int) + ((1 : Nat) : Int))) ++ Str.ofString "." ++ Str.ofString (toString ((0 : Nat) : Int)) = Str.ofString (toString (((drawnD ns).rows.length : Int) + 1)) ++ Str.ofString ".0" := by
          have : Str.ofString "." ++ Str.ofString (toString ((0 : Nat) : Int)) = Str.ofString ".0" := by decide +kernel
          rw [Str.append_assoc, this]; rfl
        rw [e0]
        refine .addS (.str (.add (.lenN (.var rfl rfl rfl) (List.length_map ..) (by omega)) .cInt) (by omega)) .cStr ?_
        have h1 := num_len (n := ((drawnD ns).rows.length : Int) + 1) (by omega) (by omega)
        have h2 : (Str.ofString ".0").length = 2 := by decide
        unfold sizeLine; omega) (.cons .cInt .nil))) hSB (by intro q hq; cases hq) (by rw [List.length_map]; omega) (fun s₇ I7 => ?_)
    have I7' : Inv _ [("stream", .l aS (((drawnD ns).str ++ [(placeS ((drawnD ns).rows.length + 1) 0, 0)]).map tokP)), ("rows", .l aR ((drawnD ns).rows.map pS))] g0 s₇ := I7.sub (by
      simp only [List.forall_mem_cons]
      refine ⟨?_, ?_, by simp⟩
      · show some (setL aS _ (.l aS _)) = _; simp [setL]
      · show some (setL aS _ (.l aR _)) = _; simp [setL, hRS])
    refine wpAny_execs_cons (wpAny_Return_some (wpAny_Tuple_spliced ?_))
    rw [starEach_cons rfl, starEach_cons rfl]
    refine spliced_cons (var_raw I7' (x := "rows") (ct := .l aR _) rfl rfl (fun v q1 => spliced_cons (var_raw I7' (x := "stream") (ct := .l aS _) rfl rfl (fun v2 q2 => spliced_nil ?_))))
    obtain ⟨rfl, q1⟩ := q1
    obtain ⟨rfl, q2⟩ := q2
    refine ⟨by unfold sizeLine; simp, _, rfl, I7'.toExt.trans .push, _, aR, aS, rfl, ⟨_, Heap.get?_push_size _ rfl, rfl, 0, rfl⟩, hRB, hSB, hRS, q1.keep fun b o e => Heap.get?_push_of_some _ e, q2.keep fun b o e => Heap.get?_push_of_some _ e⟩
end Mine

namespace Mine
/-- the operators of EXACT_TOKEN_TYPES, in its order, with their kinds -/
def ettL : List (Str × Int) := [("!", 54), ("!=", 28), ("%", 24), ("%=", 40), ("&", 19), ("&=", 41), ("(", 7), (")", 8), ("*", 16), ("**", 35), ("**=", 46), ("*=", 38), ("+", 14), ("+=", 36), (",", 12), ("-", 15), ("-=", 37), ("->", 51), (".", 23), ("...", 52), ("/", 17), ("//", 47), ("//=", 48), ("/=", 39), (":", 11), (":=", 53), (";", 13), ("<", 20), ("<<", 33), ("<<=", 44), ("<=", 29), ("=", 22), ("==", 27), (">", 21), (">=", 30), (">>", 34), (">>=", 45), ("@", 49), ("@=", 50), ("[", 9), ("]", 10), ("^", 32), ("^=", 43), ("{", 25), ("|", 18), ("|=", 42), ("}", 26), ("~", 31)].map fun p => (Str.ofString p.1, p.2)
theorem ettL_len : ettL.length = 48 := by decide +kernel
theorem dict15 (w : World) : ∃ es n, (K2 w).lookup 15 = some ⟨.type "dict", none, .dict es n, #[]⟩ ∧ KeysLit w.params es.toList := ⟨_, _, rfl, by
  repeat (first | exact trivial | refine ⟨⟨_, _, rfl, rfl⟩, ?_⟩)⟩
theorem ett15 (w : World) : ∀ p ∈ ettL, ∃ t, nsIn (K2 w) 15 p.1 = some (some (.int p.2 t)) := by
  intro p hp
  simp only [ettL, List.map_cons, List.map_nil, List.mem_cons, List.not_mem_nil, or_false] at hp
  rcases hp with h | h | h | h | h | h | h | h | h | h | h | h | h | h | h | h | h | h | h | h | h | h | h | h | h | h | h | h | h | h | h | h | h | h | h | h | h | h | h | h | h | h | h | h | h | h | h | h <;> (subst h; exact ⟨_, rfl⟩)
/-- the table as a dict of the heap, in its order -/
theorem dictAt15 (w : World) {h : Heap} (X : (K2 w).In h) : ∃ kvs ep, h.DictAt (strKind prog2 w) 15 kvs ep ∧ kvs.map (·.1) = ettL.map (·.1) := by
  obtain ⟨es, n, hl, hk⟩ := (⟨_, _, rfl, by repeat (first | exact trivial | refine ⟨⟨_, _, rfl, rfl⟩, ?_⟩)⟩ : ∃ es n, (K2 w).lookup 15 = some ⟨.type "dict", none, .dict es n, #[]⟩ ∧ KeysLit w.params es.toList)
  have hp : ∃ kvs, Pairs (strKind prog2 w) es.toList kvs ∧ kvs.map (·.1) = es.toList.map (fun e => match e.key with | .str x _ => x | _ => Str.empty) := by
    clear hl
    generalize es.toList = l at hk
    induction l with
    | nil => exact ⟨[], .nil, rfl⟩
    | cons e r ih =>
      obtain ⟨⟨x, t, e1, e2⟩, hk⟩ := hk
      obtain ⟨kvs, h1, h2⟩ := ih hk
      refine ⟨(x, e.val) :: kvs, .cons (by rw [e1]; exact strKind_is prog2 w x t) rfl h1, ?_⟩
      simp only [List.map_cons, h2, e1]
  obtain ⟨kvs, h1, h2⟩ := hp
  have h3 : es.toList.map (fun e => match e.key with | .str x _ => x | _ => Str.empty) = ettL.map (·.1) := by
    have hl' : (K2 w).lookup 15 = some ⟨.type "dict", none, .dict es n, #[]⟩ := hl
    cases hl'
    rfl
  refine ⟨kvs, n, ⟨_, es, X _ _ hl, ⟨rfl, rfl, rfl⟩, rfl, fun e he => ?_, h1, ?_⟩, h2.trans h3⟩
  · obtain ⟨x, t, e1, e2⟩ := hk.all e (Array.mem_toList_iff.mpr he)
    exact ⟨x, by rw [e1]; exact strKind_is prog2 w x t, e2⟩
  · rw [h2, h3]; decide +kernel
end Mine

namespace Mine
/-- the dict spelled after i operators -/
def Spd (w : World) (d : Addr) (i : Nat) (h : Heap) : Prop := ∃ kvs, h.DictOf (intKind prog2 w) d kvs ∧ All2 (fun (p : Str × Int) (q : Int × Value) => q.1 = p.2 ∧ ∃ t, q.2 = .str p.1 t) (ettL.take i) kvs
theorem Spd.but {w : World} {d a : Addr} {i : Nat} {h h' : Heap} (hne : a ≠ d) (x : Spd w d i h) (k : KeepBut a h h') : Spd w d i h' := by
  obtain ⟨kvs, ⟨o, es, ep, ho, r⟩, q⟩ := x
  exact ⟨kvs, ⟨o, es, ep, k d o (Ne.symm hne) ho, r⟩, q⟩
theorem Spd.keep {w : World} {d : Addr} {i : Nat} {h h' : Heap} (x : Spd w d i h) (k : KeepH h h') : Spd w d i h' := by
  obtain ⟨kvs, ⟨o, es, ep, ho, r⟩, q⟩ := x
  exact ⟨kvs, ⟨o, es, ep, k d o ho, r⟩, q⟩
theorem ett_kinds : (ettL.map (·.2)).Nodup := by decide +kernel
theorem keys_of {l : List (Str × Int)} {kvs : List (Int × Value)} (q : All2 (fun (p : Str × Int) (q : Int × Value) => q.1 = p.2 ∧ ∃ t, q.2 = .str p.1 t) l kvs) : kvs.map (·.1) = l.map (·.2) := by
  induction l generalizing kvs with
  | nil => match kvs, q with | [], _ => rfl
  | cons p l ih => match kvs, q with | k :: kvs, ⟨h, r⟩ => rw [List.map_cons, List.map_cons, ih r, h.1]
theorem stored_new {kvs : List (Int × Value)} {k : Int} {v : Value} (h : k ∉ kvs.map (·.1)) : stored kvs k v = kvs ++ [(k, v)] := by
  unfold stored
  rw [if_neg]
  intro h'
  rw [List.any_eq_true] at h'
  obtain ⟨q, hq, e⟩ := h'
  exact h (List.mem_map.mpr ⟨q, hq, by simpa using e⟩)
theorem nodup_at {l : List Int} (hn : l.Nodup) {i : Nat} {k : Int} (h : l[i]? = some k) : k ∉ l.take i := by
  intro hm
  obtain ⟨j, hj⟩ := List.mem_iff_getElem?.mp hm
  have hji : j < i := by
    have := (List.getElem?_eq_some_iff.mp hj).1
    rw [List.length_take] at this; omega
  rw [List.getElem?_take_of_lt hji] at hj
  obtain ⟨h1, h2⟩ := List.getElem?_eq_some_iff.mp h
  obtain ⟨h3, h4⟩ := List.getElem?_eq_some_iff.mp hj
  have := (List.nodup_iff_pairwise_ne.mp hn)
  rw [List.pairwise_iff_getElem] at this
  exact this j i h3 h1 hji (by rw [h4, h2])
/-- the loop that fills spelled -/
theorem fill_ok {A : Around} {B : Shared} {env : Env} {γ : Gh} {s : Shared} {rest : List Stmt} {Q : Flow → Shared → Prop} {E : Value → Shared → Prop} (w' : World) (hh : A.handled = none) {d : Addr} {σ : List (Str × Ct)} {xp ep sp1 sp2 sp3 sp4 sp5 sp6 sp7 sp8 : Pos}
    (I : Inv ⟨prog2, w', K2 w', A, B, env⟩ (("spelled", .r d) :: σ) γ s) (hd : s.heap.get? d = some { cls := .type "dict", data := .dict #[] }) (hdB : B.heap.get? d = none) (hLd : env.locals ≠ d) (hγd : ∀ q ∈ γ.objs, q.1 ≠ d)
    (hk1 : env.kindOf "operator" = some .local) (hk2 : env.kindOf "spelled" = some .local) (hk3 : env.kindOf "EXACT_TOKEN_TYPES" = some .globalImplicit) (hσ : σ.lookup (Str.ofString "operator") = none)
    (k : ∀ s', Inv ⟨prog2, w', K2 w', A, B, env⟩ (("spelled", .r d) :: σ) γ s' → Spd w' d 48 s'.heap → W ⟨prog2, w', K2 w', A, B, env⟩ rest Q E s') :
    W ⟨prog2, w', K2 w', A, B, env⟩ (.For (.Name "operator" xp) (.Name "EXACT_TOKEN_TYPES" ep) [.Assign [.Subscript (.Name "spelled" sp1) (.Subscript (.Name "EXACT_TOKEN_TYPES" sp2) (.Name "operator" sp3) sp4) sp5] (.Name "operator" sp6) sp7] [] sp8 :: rest) Q E s := by
  have hlen := ettL_len
  refine W.forK (ps := ettL.map fun p => pS p.1) (fun _ => ("spelled", .r d) :: σ) (fun i h => Spd w' d i h) d I ⟨[], ⟨_, _, _, hd, ⟨rfl, rfl, rfl⟩, rfl, (fun e he => by simp at he), .nil, by simp⟩, trivial⟩ ⟨_, hd⟩ hLd (fun i a h h' hne x kb => x.but hne kb) ?_ hk1 (fun i p γ' s' hp hγ I' X => ?_) (fun s' I' X => k s' I' (by rw [List.length_map, hlen] at X; exact X))
  · refine nameK I (v := .ref 15) (by rfl) hk3 ?_
    obtain ⟨kvs, ep, hat, hkv⟩ := dictAt15 w' I.ambH.inK
    obtain ⟨kvs', ep', hat', hkv'⟩ := dictAt15 w' I.amb.inK
    have hl : kvs.length = (ettL.map fun p => pS p.1).length := by
      have := congrArg List.length hkv
      simpa using this
    have hlt : 15 < s.heap.objs.size := by obtain ⟨o, es, ho, _⟩ := hat; exact Heap.lt_size ho
    have Wk := Walks.dictKeys (prog := prog2) (w := w') (knd := strKind prog2 w') hh s.heap.objs.size 15 (Nat.ne_of_lt hlt) kvs ep
    rw [hl] at Wk
    refine wpAny_pyIter_dict (by decide) hat ⟨.push, s.heap.objs.size, [15], _, _, rfl, Wk, ?_, Heap.get?_none_of_le (Nat.le_refl _), ?_, ?_, ?_⟩
    · rw [hl]
      exact ⟨⟨_, Heap.get?_push_size _ rfl, rfl, rfl⟩, hat.keep fun b o e => Heap.get?_push_of_some _ e⟩
    · rintro i h ⟨⟨o, ho, _, hd⟩, _⟩; exact ⟨o, _, ho, hd⟩
    · rintro i v ⟨x, y, hx, hkey⟩
      obtain ⟨t, rfl⟩ := Value.isStrOf_shape hkey
      refine ⟨pS x, ?_, fun h => ⟨t, rfl⟩⟩
      have h1 : (kvs.map (·.1))[i]? = some x := by rw [List.getElem?_map, hx]; rfl
      rw [hkv, List.getElem?_map] at h1
      rw [List.getElem?_map]
      cases he : ettL[i]? with
      | none => rw [he] at h1; cases h1
      | some q => rw [he] at h1; cases h1; rfl
    · intro b hb
      rw [List.mem_singleton] at hb; subst hb
      obtain ⟨o, es, ho, _⟩ := hat'
      exact ⟨o, ho⟩
  · rw [List.getElem?_map] at hp
    cases he : ettL[i]? with
    | none => rw [he] at hp; cases hp
    | some q =>
    rw [he] at hp; cases hp
    have hi : i < 48 := by have := (List.getElem?_eq_some_iff.mp he).1; rw [hlen] at this; exact this
    obtain ⟨es, n, hl15, hkl⟩ := dict15 w'
    obtain ⟨t15, hq15⟩ := ett15 w' q (List.mem_of_getElem? he)
    refine wpAny_execs_cons (wpAny_Assign_Subscript ?_)
    refine var_raw I' (x := "operator") (ct := cS q.1) rfl (by unfold Seen; rw [hk1]; rfl) (fun v hv => ?_)
    obtain ⟨tv, rfl⟩ := hv
    refine var_raw I' (x := "spelled") (ct := .r d) rfl (by unfold Seen; rw [hk2]; rfl) (fun ov hov => ?_)
    cases hov
    have hE : Exp ⟨prog2, w', K2 w', A, B, env⟩ ((Str.ofString "operator", cS q.1) :: (Str.ofString "spelled", .r d) :: σ) γ' (.Subscript (.Name "EXACT_TOKEN_TYPES" sp2) (.Name "operator" sp3) sp4) (vI q.2) := Exp.topDict (d := 15) (es := es) (n := n) (y := q.1) (i := q.2) (t := t15) (by rfl) hk3 hl15 hkl (.var (ct := cS q.1) rfl rfl (by rw [hk1]; rfl)) hq15
    refine wpAny_mono (hE s' I') (fun iv s₃ ⟨e3, t, hiv⟩ => ?_) fun _ _ x => x.elim
    subst hiv
    have X3 := X.keep e3.keep
    have I3 := I'.ext e3
    obtain ⟨kvs, hdo, hall⟩ := X3
    have hkeys := keys_of hall
    have hlk : kvs.length ≤ 48 := by
      have := hall.length
      rw [List.length_take] at this; omega
    have hnew : q.2 ∉ kvs.map (·.1) := by
      rw [hkeys, List.map_take]
      exact nodup_at ett_kinds (by rw [List.getElem?_map, he]; rfl)
    refine wpAny_setItem_pairs (knd := intKind prog2 w') (k := q.2) (by simp [intKind, Value.isInt]) hdo (fun h' hdo' hs' => ?_) (by unfold sizeLine; omega)
    obtain ⟨od, esd, epd, hod, hex, hdd, _⟩ := hdo
    have I4 := I3.chg' (h' := h') (tk := s₃.toks + 1) hod (fun _ _ e => by rw [hdd] at e; cases e) (fun _ e => by rw [hdd] at e; cases e) (Ne.symm hLd) hdB (fun p hp => by
      rcases hγ p hp with h | h
      · exact hγd p h
      · rintro rfl; rw [hd] at h; cases h) (fun b o hb e => (hs'.2 b hb).trans e)
    refine wpAny_execs_nil ⟨I4.weak ?_, ?_⟩
    · intro x ct hx
      rw [lookup_cons_ne]
      · exact hx
      · rintro rfl
        rw [lookup_cons_ne (by decide)] at hx
        have hx' : σ.lookup (Str.ofString "operator") = some ct := hx
        rw [hσ] at hx'; cases hx'
    · rw [stored_new hnew] at hdo'
      refine ⟨_, hdo', ?_⟩
      rw [List.take_add_one, he]
      exact hall.append ⟨⟨rfl, tv, rfl⟩, trivial⟩
end Mine

namespace Mine
/-! ## the plain law: tokens, reader -/
abbrev Tok3 := Nat × Nat × Int
def tokS (t : Tok3) : Str × Int := (placeS t.1 t.2.1, t.2.2)
def key (t : Tok3) : Int := t.1 * 1000 + t.2.1
def spE (k : Int) : Str := ((ettL.find? fun p => p.2 = k).map (·.1)).getD qm
def fillR (rows : List Str) (n : Nat) : List Str := rows ++ List.replicate (n - rows.length) Str.empty
def wrR (rows : List Str) (t : Tok3) : List Str :=
  (fillR rows t.1).dropLast ++ [(fillR rows t.1).getLastD Str.empty ++ sp (t.2.1 - ((fillR rows t.1).getLastD Str.empty).length) ++ spE t.2.2]
def rdStep (rows : List Str) (t : Tok3) : List Str := if t.2.2 < 256 then wrR rows t else rows
def readD : List Tok3 → List Str → Option (List Str)
  | [], _ => none
  | t :: r, rows => if t.2.2 = 0 then some (fillR rows (t.1 - 1)) else readD r (rdStep rows t)
def rdl (ts : List Tok3) : List Str := ts.foldl rdStep []
theorem spE_splK : ∀ k : Nat, k < 256 → spE k = splK k := by decide +kernel
theorem readD_filter : ∀ (l : List Tok3) (rows : List Str), readD l rows = readD (l.filter fun t => decide (t.2.2 < 256)) rows
  | [], rows => rfl
  | t :: r, rows => by
    by_cases h : t.2.2 < 256
    · rw [List.filter_cons_of_pos (by simpa using h)]
      show (if t.2.2 = 0 then _ else _) = (if t.2.2 = 0 then _ else _)
      split
      · rfl
      · exact readD_filter r _
    · rw [List.filter_cons_of_neg (by simpa using h)]
      have h0 : t.2.2 ≠ 0 := by omega
      show (if t.2.2 = 0 then _ else _) = _
      rw [if_neg h0, readD_filter r]
      unfold rdStep
      rw [if_neg h]
/-- a sorted list that is another's permutation -/
theorem perm_strict {l l' : List Tok3} (hp : l.Perm l') (h1 : l.Pairwise fun a b => key a ≤ key b) (h2 : l'.Pairwise fun a b => key a < key b) : l = l' := by
  induction l' generalizing l with
  | nil => exact List.perm_nil.mp hp
  | cons a r ih =>
    match l, hp with
    | [], hp => exact absurd hp.length_eq (by simp)
    | b :: l, hp =>
      have hba : b = a := by
        have hb : b ∈ a :: r := hp.mem_iff.mp (.head _)
        rcases List.mem_cons.mp hb with h | h
        · exact h
        · have ha : a ∈ b :: l := hp.mem_iff.mpr (.head _)
          rcases List.mem_cons.mp ha with h' | h'
          · exact h'.symm
          · have q1 := (List.pairwise_cons.mp h1).1 a h'
            have q2 := (List.pairwise_cons.mp h2).1 b h
            omega
      subst hba
      rw [ih (List.perm_cons b |>.mp hp) (List.pairwise_cons.mp h1).2 (List.pairwise_cons.mp h2).2]
def Ord (a b : Tok3) : Prop := key a ≤ key b ∧ (a.2.2 < 256 → key a < key b)
theorem readD_sorted {l l' : List Tok3} (hp : l.Perm l') (h1 : l.Pairwise fun a b => key a ≤ key b) (h2 : l'.Pairwise Ord) (rows : List Str) : readD l rows = readD l' rows := by
  rw [readD_filter l, readD_filter l']
  rw [perm_strict (hp.filter _) (h1.filter _)]
  refine List.Pairwise.imp_of_mem (fun {a b} ha hb h => ?_) (h2.filter _)
  exact h.2 (by simpa using (List.mem_filter.mp ha).2)
def keyD (d : DS) : Int := d.rows.length * 1000 + ((lastR d).length + d.gap : Nat)
structure DT (i : Nat) (d : DS) (ts : List Tok3) : Prop where
  str : d.str = ts.map tokS
  rd : d.rows = fillR (rdl ts) d.rows.length
  len : (rdl ts).length ≤ d.rows.length
  pw : ts.Pairwise Ord
  below : ∀ a ∈ ts, key a ≤ keyD d ∧ (a.2.2 < 256 → key a < keyD d)
  pos : ∀ a ∈ ts, 0 < a.2.2 ∧ 1 ≤ a.1 ∧ a.1 ≤ 1 + 3 * i ∧ a.2.1 ≤ 13 * i
theorem kindD_pos {x : Int} : 0 < kindD x := by
  have := size_nonneg x
  have := fmod_bd x (k := 51) (by decide)
  unfold kindD; split <;> omega
theorem spl_pos : ∀ r ∈ spl, 1 ≤ r.length := by decide +kernel
theorem splK_pos (k : Int) : 1 ≤ (splK k).length := by
  unfold splK
  rw [List.getD_eq_getElem?_getD]
  cases h : spl[k.toNat]? with
  | none => show 1 ≤ qm.length; decide +kernel
  | some r => exact spl_pos r (List.mem_of_getElem? h)
theorem lastR_app (d : DS) (s : Str) (str : List (Str × Int)) (g : Nat) : lastR ⟨d.rows.dropLast ++ [s], str, g⟩ = s := by
  unfold lastR; simp
theorem fillR_len {rows : List Str} {n : Nat} (h : rows.length ≤ n) : (fillR rows n).length = n := by unfold fillR; simp; omega
theorem fillR_self {rows : List Str} : fillR rows rows.length = rows := by unfold fillR; simp
theorem fillR_add {rows : List Str} {n k : Nat} (h : rows.length ≤ n) : fillR rows (n + k) = fillR rows n ++ List.replicate k Str.empty := by
  unfold fillR
  rw [List.append_assoc, List.replicate_append_replicate]
  congr 2; omega
theorem step_DT {i : Nat} {d : DS} {ts : List Tok3} (x : Int) (ho : DOk i d) (h : DT i d ts) (hi : i ≤ 18) : ∃ ts', DT (i + 1) (stepD d x) ts' := by
  have hpos := List.length_pos_iff.mpr ho.ne
  have hlast := ho.row _ (lastR_mem ho.ne)
  have hlen := ho.len
  have h3 := fmod_bd (sizeOf51 x) (k := 3) (by decide)
  have h10 := fmod_bd (sizeOf51 x) (k := 10) (by decide)
  have hposs : ∀ a ∈ ts, 0 < a.2.2 ∧ 1 ≤ a.1 ∧ a.1 ≤ 1 + 3 * (i + 1) ∧ a.2.1 ≤ 13 * (i + 1) := fun a ha => by have := h.pos a ha; omega
  unfold stepD
  split
  · -- new rows
    generalize hk : (1 + (sizeOf51 x).fmod 3).toNat = k
    have hk1 : 1 ≤ k := by omega
    refine ⟨ts, h.str, ?_, ?_, h.pw, fun a ha => ?_, hposs⟩
    · show d.rows ++ List.replicate k Str.empty = fillR (rdl ts) (d.rows ++ List.replicate k Str.empty).length
      rw [List.length_append, List.length_replicate, fillR_add h.len, ← h.rd]
    · show (rdl ts).length ≤ (d.rows ++ List.replicate k Str.empty).length
      have := h.len
      rw [List.length_append]; omega
    · have hb := h.below a ha
      have e : keyD ⟨d.rows ++ List.replicate k Str.empty, d.str, 0⟩ = ((d.rows.length + k : Nat) : Int) * 1000 := by
        unfold keyD lastR
        have : (d.rows ++ List.replicate k Str.empty).getLastD Str.empty = Str.empty := by
          rw [List.getLastD_eq_getLast?, List.getLast?_append, List.getLast?_replicate]
          rw [if_neg (by omega)]; rfl
        simp only [this]
        rw [List.length_append, List.length_replicate]
        show _ + (((0 : Nat) + 0 : Nat) : Int) = _
        omega
      rw [e]
      have e2 : keyD d = (d.rows.length : Int) * 1000 + ((lastR d).length + d.gap : Nat) := rfl
      omega
  · split
    · -- more blanks
      refine ⟨ts, h.str, h.rd, h.len, h.pw, fun a ha => ?_, hposs⟩
      have hb := h.below a ha
      have e2 : keyD d = (d.rows.length : Int) * 1000 + ((lastR d).length + d.gap : Nat) := rfl
      have e : keyD ⟨d.rows, d.str, (d.gap + 1 + (sizeOf51 x).fmod 10 : Int).toNat⟩ = (d.rows.length : Int) * 1000 + ((lastR d).length + (d.gap + 1 + (sizeOf51 x).fmod 10 : Int).toNat : Nat) := rfl
      rw [e]
      omega
    · have hkp := kindD_pos (x := x)
      have e2 : keyD d = (d.rows.length : Int) * 1000 + ((lastR d).length + d.gap : Nat) := rfl
      have hnew : ∀ a ∈ ts, Ord a (d.rows.length, (lastR d).length + d.gap, kindD x) := fun a ha => h.below a ha
      have hpw : (ts ++ [((d.rows.length, (lastR d).length + d.gap, kindD x) : Tok3)]).Pairwise Ord := by
        rw [List.pairwise_append]
        refine ⟨h.pw, List.pairwise_singleton _ _, fun a ha b hb => ?_⟩
        rw [List.mem_singleton] at hb; subst hb
        exact hnew a ha
      have hstr : d.str ++ [(placeS d.rows.length ((lastR d).length + d.gap), kindD x)] = (ts ++ [((d.rows.length, (lastR d).length + d.gap, kindD x) : Tok3)]).map tokS := by
        rw [List.map_append, ← h.str]; rfl
      have hps : ∀ a ∈ ts ++ [((d.rows.length, (lastR d).length + d.gap, kindD x) : Tok3)], 0 < a.2.2 ∧ 1 ≤ a.1 ∧ a.1 ≤ 1 + 3 * (i + 1) ∧ a.2.1 ≤ 13 * (i + 1) := fun a ha => by
        rcases List.mem_append.mp ha with ha | ha
        · exact hposs a ha
        · rw [List.mem_singleton] at ha; subst ha
          exact ⟨hkp, hpos, by show d.rows.length ≤ _; omega, by show (lastR d).length + d.gap ≤ _; omega⟩
      split
      · rename_i hk
        have hspos := splK_pos (kindD x)
        have hrdl : rdl (ts ++ [((d.rows.length, (lastR d).length + d.gap, kindD x) : Tok3)]) = d.rows.dropLast ++ [lastR d ++ sp d.gap ++ splK (kindD x)] := by
          unfold rdl
          rw [List.foldl_append]
          show rdStep (rdl ts) (d.rows.length, (lastR d).length + d.gap, kindD x) = _
          unfold rdStep
          rw [if_pos hk]
          unfold wrR
          simp only
          rw [← h.rd]
          have hsp : spE (kindD x) = splK (kindD x) := by
            have := spE_splK (kindD x).toNat (by omega)
            rwa [show (((kindD x).toNat : Nat) : Int) = kindD x by omega] at this
          have hl : d.rows.getLastD Str.empty = lastR d := rfl
          rw [hsp, hl, show (lastR d).length + d.gap - (lastR d).length = d.gap by omega]
        refine ⟨_, hstr, ?_, ?_, hpw, fun a ha => ?_, hps⟩
        · rw [hrdl, fillR_self]
        · rw [hrdl]; exact Nat.le_refl _
        · have e : keyD ⟨d.rows.dropLast ++ [lastR d ++ sp d.gap ++ splK (kindD x)], d.str ++ [(placeS d.rows.length ((lastR d).length + d.gap), kindD x)], 0⟩ = (d.rows.length : Int) * 1000 + ((lastR d).length + d.gap + (splK (kindD x)).length : Nat) := by
            unfold keyD
            rw [lastR_app]
            simp only [List.length_append, List.length_dropLast, List.length_singleton, Str.length_append, sp_len]
            omega
          rw [e]
          rcases List.mem_append.mp ha with ha | ha
          · have := h.below a ha; omega
          · rw [List.mem_singleton] at ha; subst ha
            have : key (d.rows.length, (lastR d).length + d.gap, kindD x) = (d.rows.length : Int) * 1000 + ((lastR d).length + d.gap : Nat) := rfl
            rw [this]; omega
      · rename_i hk
        have hrdl : rdl (ts ++ [((d.rows.length, (lastR d).length + d.gap, kindD x) : Tok3)]) = rdl ts := by
          unfold rdl
          rw [List.foldl_append]
          show rdStep (rdl ts) (d.rows.length, (lastR d).length + d.gap, kindD x) = _
          unfold rdStep
          rw [if_neg hk]; rfl
        refine ⟨_, hstr, ?_, ?_, hpw, fun a ha => ?_, hps⟩
        · rw [hrdl]; exact h.rd
        · rw [hrdl]; exact h.len
        · rcases List.mem_append.mp ha with ha | ha
          · exact h.below a ha
          · rw [List.mem_singleton] at ha; subst ha
            have : key (d.rows.length, (lastR d).length + d.gap, kindD x) = keyD d := rfl
            rw [this]
            exact ⟨Int.le_refl _, fun h => absurd h hk⟩
theorem drawn_DT (ns : List Int) (hn : ns.length ≤ 18) : ∃ ts, DT ns.length (drawnD ns) ts := by
  have : ∀ i, i ≤ ns.length → ∃ ts, DT i ((ns.take i).foldl stepD ⟨[Str.empty], [], 0⟩) ts := by
    intro i
    induction i with
    | zero => exact fun _ => ⟨[], rfl, (by show [Str.empty] = fillR [] 1; rfl), by simp [rdl], .nil, by simp, by simp⟩
    | succ i ih =>
      intro hi
      obtain ⟨ts, h⟩ := ih (by omega)
      rw [foldl_snoc ns i (ns[i]'(by omega)) _ (List.getElem?_eq_getElem (by omega))]
      exact step_DT _ (drawn_ok' ns i) h (by omega)
  obtain ⟨ts, h⟩ := this ns.length (Nat.le_refl _)
  rw [List.take_length] at h
  exact ⟨ts, h⟩
theorem readD_app : ∀ (ts : List Tok3) (t : Tok3) (rows : List Str), (∀ a ∈ ts, 0 < a.2.2) → t.2.2 = 0 → readD (ts ++ [t]) rows = some (fillR (ts.foldl rdStep rows) (t.1 - 1))
  | [], t, rows, _, h0 => by show (if t.2.2 = 0 then _ else _) = _; rw [if_pos h0]; rfl
  | a :: ts, t, rows, h, h0 => by
    have := h a (.head _)
    show (if a.2.2 = 0 then _ else readD (ts ++ [t]) (rdStep rows a)) = _
    rw [if_neg (by omega), readD_app ts t _ (fun b hb => h b (.tail _ hb)) h0]
    rfl
/-- the whole stream: what the reader needs -/
structure Full (rows : List Str) (ts : List Tok3) : Prop where
  read : readD ts [] = some rows
  pw : ts.Pairwise Ord
  bd : ∀ a ∈ ts, 0 ≤ a.2.2 ∧ 1 ≤ a.1 ∧ a.1 ≤ 60 ∧ a.2.1 ≤ 300
  len : 1 ≤ ts.length ∧ ts.length ≤ 19
theorem drawn_full (ns : List Int) (hn : ns.length ≤ 18) : ∃ ts, (drawnD ns).str ++ [(placeS ((drawnD ns).rows.length + 1) 0, 0)] = ts.map tokS ∧ Full (drawnD ns).rows ts := by
  obtain ⟨ts, h⟩ := drawn_DT ns hn
  have ho := drawn_ok' ns ns.length
  rw [List.take_length] at ho
  change DOk _ (drawnD ns) at ho
  have hlen := ho.len
  have hlast := ho.row _ (lastR_mem ho.ne)
  have hstr := ho.str
  refine ⟨ts ++ [((drawnD ns).rows.length + 1, 0, 0)], ?_, ?_, ?_, fun a ha => ?_, ?_⟩
  · rw [List.map_append, ← h.str]; rfl
  · rw [readD_app ts _ _ (fun a ha => (h.pos a ha).1) rfl]
    show some (fillR (rdl ts) (drawnD ns).rows.length) = _
    rw [← h.rd]
  · rw [List.pairwise_append]
    refine ⟨h.pw, List.pairwise_singleton _ _, fun a ha b hb => ?_⟩
    rw [List.mem_singleton] at hb; subst hb
    have hb := h.below a ha
    have e2 : keyD (drawnD ns) = ((drawnD ns).rows.length : Int) * 1000 + ((lastR (drawnD ns)).length + (drawnD ns).gap : Nat) := rfl
    have e3 : key ((drawnD ns).rows.length + 1, 0, 0) = (((drawnD ns).rows.length + 1 : Nat) : Int) * 1000 + ((0 : Nat) : Int) := rfl
    refine ⟨?_, fun _ => ?_⟩ <;> rw [e3] <;> omega
  · rcases List.mem_append.mp ha with ha | ha
    · have := h.pos a ha; omega
    · rw [List.mem_singleton] at ha; subst ha
      simp only; omega
  · have : ts.length ≤ ns.length := by
      have := congrArg List.length h.str
      rw [List.length_map] at this; omega
    rw [List.length_append, List.length_singleton]; omega
end Mine

namespace Mine
theorem cps_append (x y : Str) : (x ++ y).cps.toList = x.cps.toList ++ y.cps.toList := by
  show (x.cps ++ y.cps).toList = _
  simp
theorem dot_apart : ∀ (a b x y : List Nat), 46 ∉ a → 46 ∉ b → a ++ 46 :: x = b ++ 46 :: y → a = b ∧ x = y := by
  intro a
  induction a with
  | nil =>
    intro b x y _ hb h
    cases b with
    | nil => cases h; exact ⟨rfl, rfl⟩
    | cons c b => cases h; exact absurd (.head _) hb
  | cons c a ih =>
    intro b x y ha hb h
    cases b with
    | nil => cases h; exact absurd (.head _) ha
    | cons c' b =>
      obtain ⟨h1, h2⟩ := List.cons.inj h
      obtain ⟨h3, h4⟩ := ih b x y (fun q => ha (.tail _ q)) (fun q => hb (.tail _ q)) h2
      exact ⟨by rw [h1, h3], h4⟩
theorem str_eq {x y : Str} (h : x.cps.toList = y.cps.toList) : x = y := by
  obtain ⟨x⟩ := x
  obtain ⟨y⟩ := y
  congr
  exact Array.toList_inj.mp h
theorem split_place {a b : Str} (ha : 46 ∉ a.cps.toList) (hb : 46 ∉ b.cps.toList) : Txt.split (a ++ Str.ofString "." ++ b) dotS = [a, b] := by
  have hdot : dotS = ⟨#[46]⟩ := by decide +kernel
  have hdot2 : Str.ofString "." = ⟨#[46]⟩ := by decide +kernel
  rw [hdot2, hdot]
  have hj := PySem.StrLaws.join_split (a ++ ⟨#[46]⟩ ++ b) ⟨#[46]⟩
  have hf := PySem.StrLaws.split_free (a ++ ⟨#[46]⟩ ++ b) 46
  have hdl : ((⟨#[46]⟩ : Str)).cps.toList = [46] := rfl
  generalize Txt.split (a ++ ⟨#[46]⟩ ++ b) ⟨#[46]⟩ = P at hj hf ⊢
  have hj' : (Str.join ⟨#[46]⟩ P).cps.toList = (a ++ ⟨#[46]⟩ ++ b).cps.toList := congrArg (fun x : Str => x.cps.toList) hj
  rw [cps_append, cps_append, hdl, List.append_assoc] at hj'
  match P, hf, hj' with
  | [], _, hj' => simp [Str.join, Str.empty] at hj'
  | [p], hf, hj' =>
    exfalso
    have h1 : p.cps.toList = a.cps.toList ++ ([46] ++ b.cps.toList) := hj'
    exact hf p (.head _) (by rw [h1]; simp)
  | p :: q :: r, hf, hj' =>
    have h1 : (p ++ (⟨#[46]⟩ : Str) ++ Str.join ⟨#[46]⟩ (q :: r)).cps.toList = a.cps.toList ++ ([46] ++ b.cps.toList) := hj'
    rw [cps_append, cps_append, hdl, List.append_assoc] at h1
    obtain ⟨e1, e2⟩ := dot_apart _ _ _ _ (hf p (.head _)) ha h1
    cases r with
    | nil =>
      have e3 : q.cps.toList = b.cps.toList := e2
      rw [str_eq e1, str_eq e3]
    | cons r0 r =>
      exfalso
      apply hb
      have e3 : (Str.join ⟨#[46]⟩ (q :: r0 :: r)).cps.toList = b.cps.toList := e2
      rw [← e3]
      show 46 ∈ (q ++ (⟨#[46]⟩ : Str) ++ Str.join ⟨#[46]⟩ (r0 :: r)).cps.toList
      rw [cps_append, cps_append, hdl]; simp
def numOk (n : Nat) : Bool :=
  let x := Str.ofString (toString (n : Int))
  (x.cps.toList.all fun d => d != 46 && decide (0 < d) && decide (d < 128)) && decide (x.length ≤ 100) && (PySem.intText? x == some (n : Int))
theorem numOk_all : ∀ n : Nat, n < 301 → numOk n = true := by decide +kernel
theorem num_facts {n : Nat} (h : n ≤ 300) : 46 ∉ (Str.ofString (toString (n : Int))).cps.toList ∧ TxtOk (Str.ofString (toString (n : Int))) ∧ (Str.ofString (toString (n : Int))).length ≤ 100 ∧ PySem.intText? (Str.ofString (toString (n : Int))) = some (n : Int) := by
  have := numOk_all n (by omega)
  unfold numOk at this
  simp only [Bool.and_eq_true, List.all_eq_true, decide_eq_true_eq, bne_iff_ne, ne_eq, beq_iff_eq] at this
  obtain ⟨⟨h1, h2⟩, h3⟩ := this
  exact ⟨fun q => (h1 46 q).1.1 rfl, ⟨by omega, fun d hd => ⟨(h1 d hd).1.2, (h1 d hd).2⟩⟩, h2, h3⟩
theorem place_lc {n m : Nat} (hn : n ≤ 300) (hm : m ≤ 300) : lc (placeS n m) = some ((n : Int), (m : Int)) ∧ Fit (placeS n m) := by
  obtain ⟨a1, a2, a3, a4⟩ := num_facts hn
  obtain ⟨b1, b2, b3, b4⟩ := num_facts hm
  have e := split_place a1 b1
  refine ⟨?_, ⟨?_, fun p hp => ?_⟩⟩
  · unfold lc placeS
    rw [e]
    simp only [lcOf, a4, b4]
  · unfold placeS
    rw [Str.length_append, Str.length_append]
    have : (Str.ofString ".").length = 1 := by decide
    omega
  · unfold placeS at hp
    rw [e] at hp
    simp only [List.mem_cons, List.not_mem_nil, or_false] at hp
    rcases hp with rfl | rfl
    · exact a2
    · exact b2
end Mine

namespace Mine
/-! ## what the sort makes of the stream turned round -/
def tk3P (t : Tok3) : Pt := tokP (tokS t)
def zOf (t : Tok3) : Int × Int := (t.1, t.2.1)
abbrev t0 : Tok3 := (0, 0, 0)
def kAt (ts : List Tok3) (i : Nat) : Int := key (ts.reverse.getD i t0)
def outOf (ts : List Tok3) (p : Array Nat) : List Tok3 := p.toList.map fun i => ts.reverse.getD i t0
theorem lex_key {rows : List Str} {ts : List Tok3} (f : Full rows ts) (i j : Nat) (x y : Int × Int) (hx : (ts.reverse.map zOf)[i]? = some x) (hy : (ts.reverse.map zOf)[j]? = some y) : lexB x y = decide (kAt ts i < kAt ts j) := by
  rw [List.getElem?_map] at hx hy
  have g : ∀ (i : Nat) (x : Int × Int), (ts.reverse[i]?).map zOf = some x → ∃ t ∈ ts, zOf t = x ∧ kAt ts i = key t := by
    intro i x hx
    cases h : ts.reverse[i]? with
    | none => rw [h] at hx; cases hx
    | some t =>
      rw [h] at hx; cases hx
      refine ⟨t, List.mem_reverse.mp (List.mem_of_getElem? h), rfl, ?_⟩
      unfold kAt
      rw [List.getD_eq_getElem?_getD, h]; rfl
  obtain ⟨a, ha, rfl, ea⟩ := g i x hx
  obtain ⟨b, hb, rfl, eb⟩ := g j y hy
  have ba := f.bd a ha
  have bb := f.bd b hb
  rw [ea, eb]
  unfold lexB zOf key
  simp only
  rw [Bool.eq_iff_iff]
  simp only [Bool.or_eq_true, Bool.and_eq_true, decide_eq_true_eq, beq_iff_eq]
  omega
theorem kAt_rev {ts : List Tok3} {i : Nat} (h : i < ts.length) : kAt ts (ts.length - 1 - i) = key (ts[i]) := by
  unfold kAt
  rw [List.getD_eq_getElem?_getD, List.getElem?_reverse (by omega), show ts.length - 1 - (ts.length - 1 - i) = i by omega, List.getElem?_eq_getElem h]; rfl
theorem kAt_ni {rows : List Str} {ts : List Tok3} (f : Full rows ts) (i j : Nat) (hij : i ≤ j) (hj : j < ts.length) : kAt ts j ≤ kAt ts i := by
  have e1 := kAt_rev (ts := ts) (i := ts.length - 1 - i) (by omega)
  have e2 := kAt_rev (ts := ts) (i := ts.length - 1 - j) (by omega)
  rw [show ts.length - 1 - (ts.length - 1 - i) = i by omega] at e1
  rw [show ts.length - 1 - (ts.length - 1 - j) = j by omega] at e2
  rw [e1, e2]
  by_cases h : i = j
  · subst h; exact Int.le_refl _
  · have := f.pw
    rw [List.pairwise_iff_getElem] at this
    exact (this (ts.length - 1 - j) (ts.length - 1 - i) (by omega) (by omega) (by omega)).1
theorem out_perm {ts : List Tok3} {p : Array Nat} (hp : p.Perm (List.range ts.length).toArray) : (outOf ts p).Perm ts := by
  have h1 : p.toList.Perm (List.range ts.length) := by simpa using Array.perm_iff_toList_perm.mp hp
  have h2 : (outOf ts p).Perm ((List.range ts.length).map fun i => ts.reverse.getD i t0) := h1.map _
  have h3 : (List.range ts.length).map (fun i => ts.reverse.getD i t0) = ts.reverse := by
    apply List.ext_getElem
    · simp
    · intro i h1 h2
      rw [List.getElem_map, List.getElem_range, List.getD_eq_getElem?_getD, List.getElem?_eq_getElem h2]; rfl
  rw [h3] at h2
  exact h2.trans (List.reverse_perm ts)
theorem out_read {rows : List Str} {ts : List Tok3} (f : Full rows ts) {p : Array Nat} (hs : p.size = ts.length) (hp : p.Perm (List.range ts.length).toArray) (hk : ∀ i, i < ts.length → kAt ts (p.getD i 0) = kAt ts (ts.length - 1 - i)) : readD (outOf ts p) [] = some rows := by
  rw [readD_sorted (out_perm hp) ?_ f.pw, f.read]
  rw [List.pairwise_iff_getElem]
  have hl : (outOf ts p).length = ts.length := by unfold outOf; rw [List.length_map, Array.length_toList, hs]
  have g : ∀ (i : Nat) (h : i < (outOf ts p).length), key (outOf ts p)[i] = key (ts[i]'(by omega)) := by
    intro i h
    have h' : i < ts.length := by omega
    rw [← kAt_rev h', ← hk i h']
    have e0 : (outOf ts p)[i] = ts.reverse.getD (p.toList[i]'(by rw [Array.length_toList]; omega)) t0 := by simp [outOf]
    rw [e0]
    unfold kAt
    have : p.getD i 0 = p.toList[i]'(by rw [Array.length_toList]; omega) := by
      have hi : i < p.size := by omega
      simp [Array.getD, hi]
    rw [this]
  intro i j hi hj hij
  rw [g i hi, g j hj]
  have := f.pw
  rw [List.pairwise_iff_getElem] at this
  exact (this i j (by omega) (by omega) hij).1
theorem out_bd {rows : List Str} {ts : List Tok3} (f : Full rows ts) {p : Array Nat} (hp : p.Perm (List.range ts.length).toArray) : ∀ a ∈ outOf ts p, 0 ≤ a.2.2 ∧ 1 ≤ a.1 ∧ a.1 ≤ 60 ∧ a.2.1 ≤ 300 := fun a ha => f.bd a ((out_perm hp).mem_iff.mp ha)
theorem out_all {h : Heap} {ts : List Tok3} {vs : List Value} (q : All2 (Pt.Is h) (ts.reverse.map tk3P) vs) {p : Array Nat} (hp : p.Perm (List.range ts.length).toArray) : All2 (Pt.Is h) ((outOf ts p).map tk3P) (p.toList.map fun i => vs.getD i Value.none) := by
  have hlt : ∀ i ∈ p.toList, i < ts.length := fun i hi => by
    have h1 : p.toList.Perm (List.range ts.length) := by simpa using Array.perm_iff_toList_perm.mp hp
    exact List.mem_range.mp (h1.mem_iff.mp hi)
  unfold outOf
  generalize p.toList = l at hlt
  induction l with
  | nil => exact trivial
  | cons i l ih =>
    refine ⟨?_, ih fun j hj => hlt j (.tail _ hj)⟩
    have hi := hlt i (.head _)
    have hg : (ts.reverse.map tk3P)[i]? = some (tk3P (ts.reverse.getD i t0)) := by
      rw [List.getElem?_map, List.getD_eq_getElem?_getD, List.getElem?_eq_getElem (by rw [List.length_reverse]; exact hi)]; rfl
    obtain ⟨v, hv, hq⟩ := q.get hg
    show Pt.Is h (tk3P (ts.reverse.getD i t0)) (vs.getD i Value.none)
    have e0 : vs.getD i Value.none = v := by rw [List.getD_eq_getElem?_getD, hv]; rfl
    rw [e0]
    exact hq
end Mine

namespace Mine
/-- what the making of the lambda reads -/
structure LamH (h : Heap) : Prop where
  g : ∃ mg, h.Ns mainGlobals mg ∧ ∃ bm ob, mg "__builtins__" = some (.ref bm) ∧ bm ≠ builtinsNs ∧ h.get? bm = some ob ∧ ob.cls = .type "module" ∧ ob.dict = some builtinsNs ∧ ob.data = .plain
  code : CodeHd h 63 61
  tab : h.get? 61 = some (tabObj #[])
theorem LamH.keep {h h' : Heap} (x : LamH h) (k : KeepH h h') : LamH h' :=
  ⟨let ⟨mg, h1, bm, ob, h2, h3, h4, r⟩ := x.g; ⟨mg, h1.keeps k, bm, ob, h2, h3, k _ _ h4, r⟩, x.code.keeps k, k _ _ x.tab⟩
theorem lam_raw {M : Model} {A : Around} {E : Value → Shared → Prop} {Q : Value → Shared → Prop} {s : Shared} {env : Env} {params : Arguments} {body : PySem.Expr} {scope : Scope} {pos : Pos} (X : LamH s.heap) (hge : env.globals = mainGlobals) (hcode : env.code = .ref 63) (hcl : closureFor scope env = pure []) (hdef : defaultsOf params env = ([], []))
    (h : ∀ f c' oc ctv pm h' tk, KeepBut 61 s.heap h' → s.heap.get? f = none → s.heap.get? c' = none → h'.get? f = some (kla_obj "<lambda>" (env.qual ++ "<lambda>") params body scope [] pm c' ctv) → h'.get? c' = some oc → (∃ vs t, oc.data = .fields vs ∧ vs[1]? = some (.str (env.qual ++ "<lambda>") t)) → (∃ ps, h'.get? 61 = some (tabObj ps)) →
      s.heap.objs.size ≤ c' → c' < f → Q (.ref f) { s with heap := h', toks := tk }) : wpAny M A (eval (.Lambda params body scope pos) env) Q E s := by
  obtain ⟨mg, hg, bm, ob, b1, b2, b3, b4, b5, b6⟩ := X.g
  have hgP : mainGlobals ≠ 61 := fun q => by
    obtain ⟨o, es, ep, e, hd, _⟩ := hg
    rw [q, X.tab] at e; cases e; cases hd
  have hbP : bm ≠ 61 := fun q => by rw [q, X.tab] at b3; cases b3; cases b4
  have hbG : bm ≠ mainGlobals := fun q => by
    obtain ⟨o, es, ep, e, hd, _⟩ := hg
    rw [q, e] at b3; cases b3; rw [hd] at b6; cases b6
  refine kla_eval hdef (kla_makeFunction (mg := mg) hcl hge hg hcode X.code X.tab trivial rfl hgP ⟨bm, ob, b1, b2, hbG, hbP, b3, b4, b5, b6⟩ fun c' ctv h' tk hx hc1 hc2 hrec htab => ?_)
  obtain ⟨c₂, oc, vs, t, e2, hoc, hd, hv⟩ := hrec
  cases e2
  refine h h'.objs.size c' oc ctv _ _ tk (fun b o hb e => Heap.get?_push_of_some _ (hx b o hb e)) (Heap.get?_none_of_le (by omega)) (Heap.get?_none_of_le hc1) (Heap.get?_push_size _ rfl) (Heap.get?_push_of_some _ hoc) ⟨vs, t, hd, hv⟩ ⟨_, Heap.get?_push_of_some _ htab⟩ hc1 hc2
/-- a lambda of one name, entered -/
theorem enterE {prog : Program} {w : World} {K : Frag} {A : Around} {s : Shared} {R : Result → Shared → Prop} {name qual : Str} {params : Arguments} {body : PySem.Expr} {scope : Scope} {pm ctv : Value} {c' f : Addr} {vs : List Value} {binds : List (Str × Value)} {σ₀ : List (Str × Ct)}
    (ho : s.heap.get? f = some (kla_obj name qual params body scope [] pm c' ctv)) (hcd : s.heap.CodeRec (.ref c') qual) (hA : A.depth < recursionLimit) (amb : Amb K s.heap)
    (hb : bindArgs (kla_fn name qual params body scope [] pm (.ref c') ctv) ⟨vs, []⟩ = pure binds) (hloc : ∀ y ∈ binds, scope.names.lookup y.1 = some .local)
    (hσ : All2 (fun (p : Str × Ct) (q : Str × Value) => p.1 = q.1 ∧ p.2.Is s.heap q.2) σ₀ binds.reverse)
    (h : ∀ s₁, Inv (inDef prog w K A s qual scope f (.ref c')) σ₀ g0 s₁ →
      wpAny (model prog w) (A.deeper (envOf qual scope s.heap.objs.size f (.ref c'))) (eval body (envOf qual scope s.heap.objs.size f (.ref c'))) (fun v s' => R (.ok (.ret v)) s') no s₁)
    (hco : scope.isCoroutine = false := by rfl) (hgen : scope.isGenerator = false := by rfl) (hk : scope.kind = .function := by rfl)
    (hcell : ∀ x ∈ scope.names, x.2 ≠ .cell := by decide) : codeAny (model prog w) A (.call (.ref f) ⟨vs, []⟩) R s := by
  obtain ⟨p, l, mg, mb, T⟩ := amb.top
  refine kla_callFunE hA ho rfl hco hgen rfl hcd ?_
  rw [hb]
  refine wpAny_pure (wpAny_newFunctionEnv hcell hloc (fun h₁ hns hsb => ⟨(T.nolimit).fresh _ hsb, ?_⟩) hk)
  show codeAny _ _ (.expr body (envOf qual scope s.heap.objs.size f (.ref c'))) _ _
  have hk₁ : ∀ b o, s.heap.get? b = some o → h₁.get? b = some o := fun b o e => hsb.extBut b o (Nat.ne_of_lt (Heap.lt_size e)) (Heap.get?_push_of_some _ e)
  refine kla_codeExpr (wpAny_mono (h _ ⟨amb, hk₁, rfl, ⟨hk, rfl, rfl, Heap.get?_none_of_le (Nat.le_refl _), ⟨_, hns, fun x ct e _ => ?_⟩, fun x c e => (by cases e), fun x y c e => (by cases e), fun x ct e hkx => ?_⟩, fun q hq => (by cases hq), keepT0⟩) (fun v s' hv => hv) fun _ _ x => x.elim)
  · obtain ⟨v, h1, h2⟩ := all2_lookup (P := fun ct v => Ct.Is s.heap ct v) hσ e
    exact ⟨v, h1, h2.keep hk₁⟩
  · exfalso
    obtain ⟨v, h1, h2⟩ := all2_lookup (P := fun ct v => Ct.Is s.heap ct v) hσ e
    have := hloc _ (List.mem_reverse.mp (mem_of_lookup h1))
    have e2 : (envOf qual scope s.heap.objs.size f (.ref c')).kindOf x = some .local := this
    rcases hkx with q | q <;> (rw [e2] at q; cases q)
end Mine

namespace Mine
abbrev lamArgs (p6 : Pos) : Arguments := { posonlyargs := [], args := [{ arg := "entry", annotation := none, pos := p6 }], vararg := none, kwonlyargs := [], kw_defaults := [], kwarg := none, defaults := [] }
abbrev lamBody (p1 p2 p3 p4 p5 : Pos) : PySem.Expr := .Call (.Name "get_line_col" p1) [.Subscript (.Name "entry" p2) (.Constant (.int 0) 0 p3) p4] [] p5
abbrev lamScope : Scope := { kind := .function, names := [(Str.ofString "entry", .local), (Str.ofString "get_line_col", .globalImplicit)], isGenerator := false, isCoroutine := false, more := [] }
theorem noTabs2 (w : World) : noTabs (K2 w) = true := by rfl
theorem amb_hide {w : World} {h : Heap} (a : Amb (K2 w) h) (X : LamH h) : Amb (K2 w) (hideAll h [61]) := by
  have hT : TabsAt [(63, 61)] h := fun q hq => by
    rw [List.mem_singleton] at hq; subst hq
    exact ⟨X.code, X.tab⟩
  refine ⟨ghost_K (tabs := [(63, 61)]) hT a.inK (noTabs2 w), ?_⟩
  obtain ⟨p, l, mg, mb, T⟩ := a.top
  exact ⟨p, l, mg, mb, ⟨ghost_ns (tabs := [(63, 61)]) hT T.g, ghost_ns (tabs := [(63, 61)]) hT T.b, (let ⟨mc, a, r⟩ := T.nolimit; ⟨mc, ghost_ns (tabs := [(63, 61)]) hT a, r⟩), T.builtins, T.free⟩⟩
/-- one call of the lambda -/
theorem lam_call {w : World} {A : Around} {s : Shared} {qual : Str} {pm ctv : Value} {c' f T : Addr} {p1 p2 p3 p4 p5 p6 : Pos} {t : Tok3} {oc : Obj} (hA : AOk 2 A) (amb : Amb (K2 w) s.heap)
    (ho : s.heap.get? f = some (kla_obj "<lambda>" qual (lamArgs p6) (lamBody p1 p2 p3 p4 p5) lamScope [] pm c' ctv)) (hoc : s.heap.get? c' = some oc) (hcd : ∃ vs t, oc.data = .fields vs ∧ vs[1]? = some (.str qual t))
    (hv : (tk3P t).Is s.heap (.ref T)) (h1 : t.1 ≤ 300) (h2 : t.2.1 ≤ 300) :
    wpAny (model prog2 w) A (call (.ref f) [.ref T]) (fun k s' => Ext s s' ∧ ∃ a o t' u n, k = .ref a ∧ s'.heap.get? a = some o ∧ o.cls = .type "tuple" ∧ o.data = .seq #[.int (zOf t).1 t', .int (zOf t).2 u] n) (fun _ _ => False) s := by
  obtain ⟨vs, tt, hd, hq⟩ := hcd
  obtain ⟨hlc, hfit⟩ := place_lc h1 h2
  refine wpAny_call (enterE (K := K2 w) (binds := [("entry", .ref T)]) (σ₀ := [("entry", .p (tk3P t))]) ho ⟨c', oc, vs, tt, rfl, hoc, hd, hq⟩ (by have := hA.depth; omega) amb (by rfl) (by simp) ⟨⟨rfl, hv⟩, trivial⟩ (fun s₁ I => ?_))
  refine wpAny_mono (Exp.call (c := inDef prog2 w (K2 w) A s qual lamScope f (.ref c')) (σ := [("entry", .p (tk3P t))]) (γ := g0) (glc2 w _ hfit _ _ hlc) (AOk.deeper hA) (by rfl) (by rfl) (by rfl) (.cons (.itemT (l := [.str (placeS t.1 t.2.1), .int t.2.2]) (.var rfl rfl rfl) .cInt rfl (by decide) (by decide)) .nil) (by decide) s₁ I) (fun v s' ⟨e1, q⟩ => ?_) fun _ _ x => x
  obtain ⟨a, us, rfl, ⟨o, ho', hcl, n, hdt⟩, hu⟩ := q
  match us, hu with
  | [u1, u2], ⟨⟨x1, e1'⟩, ⟨x2, e2'⟩, _⟩ =>
    subst e1' e2'
    exact ⟨I.toExt.trans e1, a, o, x1, x2, n, rfl, ho', hcl, hdt⟩
theorem sort_site {A : Around} {B : Shared} {env : Env} {s : Shared} {Q : Value → Shared → Prop} {E : Value → Shared → Prop} (w : World) {ts : List Tok3} {rows : List Str} {aR d b : Addr} {np lp lq kp pos p1 p2 p3 p4 p5 p6 : Pos} (hA : AOk 3 A) (full : Full rows ts) (h2 : 2 ≤ ts.length)
    (I : Inv ⟨prog2, w, K2 w, A, B, env⟩ [("rows", .l aR []), ("spelled", .r d), ("stream", .l b (ts.reverse.map tk3P))] g0 s)
    (X : LamH B.heap) (hab : B.heap.objs.size ≤ env.locals) (hb : Lst B.heap b (ts.reverse.map tk3P)) (hR : B.heap.get? aR = none) (hd : B.heap.get? d = none) (hLd : env.locals ≠ d) (sp : Spd w d 48 s.heap)
    (hcode : env.code = .ref 63) (hcells : env.cells = []) (hk1 : env.kindOf "stream" = some .local) (hk2 : env.kindOf "sorted" = some .globalImplicit) (hk3 : env.kindOf "rows" = some .local) (hcl : closureFor lamScope env = pure [])
    (k : ∀ D s' out, Inv ⟨prog2, w, K2 w, A, growB ⟨prog2, w, K2 w, A, B, env⟩ s' [aR], env⟩ [("rows", .l aR []), ("spelled", .r d), ("stream", .l b (ts.reverse.map tk3P))] g0 s' → Spd w d 48 (growB ⟨prog2, w, K2 w, A, B, env⟩ s' [aR]).heap →
      Lst (growB ⟨prog2, w, K2 w, A, B, env⟩ s' [aR]).heap D (out.map tk3P) → readD out [] = some rows → (∀ a ∈ out, 0 ≤ a.2.2 ∧ 1 ≤ a.1 ∧ a.1 ≤ 60 ∧ a.2.1 ≤ 300) → out.length ≤ 19 →
      KeepBut 61 B.heap (growB ⟨prog2, w, K2 w, A, B, env⟩ s' [aR]).heap → (∃ ps, (growB ⟨prog2, w, K2 w, A, B, env⟩ s' [aR]).heap.get? 61 = some (tabObj ps)) → s' = { B with heap := s'.heap, toks := s'.toks } → Q (.ref D) s') :
    wpAny (model prog2 w) A (eval (.Call (.Name "sorted" np) [.Name "stream" lp] [⟨some "key", .Lambda (lamArgs p6) (lamBody p1 p2 p3 p4 p5) lamScope lq, kp⟩] pos) env) Q E s := by
  show wpAny (model prog2 w) A (do callWith pos (← eval (.Name "sorted" np) env) [] (backTo pos (starEach [.Name "stream" lp] env)) (backToKw pos (keywordEach [⟨some "key", .Lambda (lamArgs p6) (lamBody p1 p2 p3 p4 p5) lamScope lq, kp⟩] env))) Q E s
  refine wpAny_bind (nameB I (v := .builtin "sorted") (by rfl) (by decide +kernel) hk2 ?_)
  refine callWith_builtin_kwB (by rfl) (by rfl) (evalArgs_kw (by rfl) (spliced_cons (var_raw I (x := "stream") (ct := .l b (ts.reverse.map tk3P)) rfl (by unfold Seen; rw [hk1]; rfl) (fun v hv => spliced_nil ?_))))
  obtain ⟨rfl, _⟩ := hv
  have hglob := I.frm.glob
  have hqual : True := trivial
  refine evalAll_cons (wpAny_bind (lam_raw (X.keep I.keep) hglob hcode hcl (by rfl) fun f c' oc ctv pm h' tk kb hf hc' hof hoc hcd h61 hc1 hc2 => wpAny_bind (wpAny_standAt (wpAny_pure (evalAll_nil ?_)))))
  show wpAny (model prog2 w) A (call (.builtin "sorted") [.ref b] [(Str.ofString "key", .ref f)]) Q E { s with heap := h', toks := tk }
  obtain ⟨ps, h61⟩ := h61
  obtain ⟨m, hns, hm⟩ := I.frm.loc
  have newL := I.frm.newL
  change B.heap.get? env.locals = none at newL
  change s.heap.Ns env.locals m at hns
  -- addresses
  have L61 : env.locals ≠ 61 := fun q => by rw [q, X.tab] at newL; cases newL
  have R61 : aR ≠ 61 := fun q => by rw [q, X.tab] at hR; cases hR
  have d61 : d ≠ 61 := fun q => by rw [q, X.tab] at hd; cases hd
  obtain ⟨oL, esL, epL, hoL, hdL, _⟩ := id hns
  obtain ⟨vsR, ⟨nR, eR⟩, qR⟩ := I.list (x := "rows") rfl (by unfold Seen; show (env.kindOf _ == _ || _ || _) = true; rw [hk3]; rfl)
  have RL : aR ≠ env.locals := fun q => by rw [q, hoL] at eR; cases eR; cases hdL
  obtain ⟨kvs, ⟨oD, esD, epD, hoD, hxD, hdD, rD⟩, aD⟩ := id sp
  have Rd : d ≠ aR := fun q => by rw [q, eR] at hoD; cases hoD; cases hdD
  have hvR : vsR = [] := by
    match vsR, qR with
    | [], _ => rfl
  subst hvR
  have hgh : ∀ {x o}, (hideAll B.heap [61]).get? x = some o → B.heap.get? x = some o ∧ x ≠ 61 := fun {x o} e => ⟨of_hideAll _ e, fun q => by
    rw [q, hideAll_none [61] (.head _)] at e; cases e⟩
  have h0none : ∀ {x}, B.heap.get? x = none → (hideAll B.heap [61]).get? x = none := fun {x} e => by
    cases hg : (hideAll B.heap [61]).get? x with
    | none => rfl
    | some o => rw [of_hideAll _ hg] at e; cases e
  have Bnone : ∀ {x}, s.heap.get? x = none → B.heap.get? x = none := fun {x} e => by
    cases hg : B.heap.get? x with
    | none => rfl
    | some o => rw [I.keep _ _ hg] at e; cases e
  have toH0 : ∀ {x o}, B.heap.get? x = some o → x ≠ 61 → (hideAll B.heap [61]).get? x = some o := fun {x o} e hx => hideAll_get _ e (by simpa using hx)
  have F : Fr (hideAll B.heap [61]) env.locals h' m := ⟨⟨oL, esL, epL, kb _ _ L61 hoL, (by obtain ⟨o, es, ep, h1, h2⟩ := hns; rw [hoL] at h1; cases h1; rw [hdL] at h2; obtain ⟨h2, h3⟩ := h2; cases h2; exact ⟨hdL, h3⟩)⟩, fun x o e => kb x o (hgh e).2 (I.keep _ _ (hgh e).1), by rw [hideAll_size]; exact hab⟩
  have fL : f ≠ env.locals := fun q => by rw [q, hoL] at hf; cases hf
  have cL : c' ≠ env.locals := fun q => by rw [q, hoL] at hc'; cases hc'
  have N : News (hideAll B.heap [61]) env.locals h' [(f, kla_obj "<lambda>" (env.qual ++ "<lambda>") (lamArgs p6) (lamBody p1 p2 p3 p4 p5) lamScope [] pm c' ctv), (c', oc), (61, tabObj ps), (aR, { cls := .type "list", data := .seq ([] : List Value).toArray nR }), (d, oD)] := by
    intro q hq
    simp only [List.mem_cons, List.not_mem_nil, or_false] at hq
    rcases hq with rfl | rfl | rfl | rfl | rfl
    · exact ⟨hof, fL, h0none (Bnone hf)⟩
    · exact ⟨hoc, cL, h0none (Bnone hc')⟩
    · exact ⟨h61, L61.symm, hideAll_none _ (.head _)⟩
    · exact ⟨kb _ _ R61 eR, RL, h0none hR⟩
    · exact ⟨kb _ _ d61 hoD, hLd.symm, h0none hd⟩
  obtain ⟨vs, ⟨nb, eb⟩, qb⟩ := id hb
  have b61 : b ≠ 61 := fun q => by rw [q, X.tab] at eb; cases eb
  have hlen : vs.length = ts.length := by have := qb.length; simp at this; omega
  have hl19 := full.len
  have amb0 := amb_hide (w := w) I.amb X
  -- tuples of the base stand in the ghost
  have tupG : ∀ {p : Pt} {v : Value}, p.Is B.heap v → p.Is (hideAll B.heap [61]) v := fun {p v} y => by
    cases p with
    | a x => exact y
    | t l =>
      obtain ⟨T, us, e, ⟨o, ho, hc, n, hdt⟩, q⟩ := y
      exact ⟨T, us, e, ⟨o, toH0 ho (fun q => by rw [q, X.tab] at ho; cases ho; cases hc), hc, n, hdt⟩, q⟩
  have hZ : All2 (fun v z => KeyCall prog2 w A.in1.in1 { s with heap := h', toks := tk } (hideAll B.heap [61]) [(f, kla_obj "<lambda>" (env.qual ++ "<lambda>") (lamArgs p6) (lamBody p1 p2 p3 p4 p5) lamScope [] pm c' ctv), (c', oc), (61, tabObj ps), (aR, { cls := .type "list", data := .seq ([] : List Value).toArray nR }), (d, oD)] (.ref f) v z) vs (ts.reverse.map zOf) := by
    have hbd : ∀ t ∈ ts.reverse, t.1 ≤ 300 ∧ t.2.1 ≤ 300 := fun t ht => by have := full.bd t (List.mem_reverse.mp ht); omega
    clear hb eb hlen
    generalize ts.reverse = l at qb hbd
    induction l generalizing vs with
    | nil =>
      match vs, qb with
      | [], _ => exact trivial
    | cons t l ih =>
      match vs, qb with
      | v :: vs, ⟨y, r⟩ =>
        refine ⟨fun s'' hk0 hn hr => ?_, ih vs r fun t ht => hbd t (.tail _ ht)⟩
        have y' : (tk3P t).Is s''.heap v := (tupG y).keep hk0
        obtain ⟨T, us, rfl, _⟩ := id y'
        exact lam_call ⟨hA.handled, by have := hA.depth; show A.depth + 2 < _; omega, by have := hA.units; show A.units + 1 + 1 + 10 * 2 < 9000; omega⟩ (amb0.keep hk0) (hn _ (.head _)) (hn _ (.tail _ (.head _))) hcd y' (hbd t (.head _)).1 (hbd t (.head _)).2
  refine sorted_pairs (s := { s with heap := h', toks := tk }) (Z := ts.reverse.map zOf) (K := kAt ts) F N (vs := vs) ⟨_, kb _ _ b61 (I.keep _ _ eb), rfl, nb, rfl⟩ (by omega) (by omega) hZ (lex_key full) (by rw [hlen]; exact kAt_ni full) fun D cD h4 tk4 p F4 N4 hps hpp hpk hlt => ?_
  rw [hlen] at hps hpp hpk
  have gD := N4 (D, listOf (p.toList.map fun i => vs.getD i Value.none).toArray cD) (.head _)
  have g61 := N4 (61, tabObj ps) (.tail _ (.tail _ (.tail _ (.head _))))
  have gR := N4 (aR, { cls := .type "list", data := .seq ([] : List Value).toArray nR }) (.tail _ (.tail _ (.tail _ (.tail _ (.head _)))))
  have gd := N4 (d, oD) (.tail _ (.tail _ (.tail _ (.tail _ (.tail _ (.head _))))))
  have DR : D ≠ aR := Nat.ne_of_gt (hlt (aR, { cls := .type "list", data := .seq ([] : List Value).toArray nR }) (.tail _ (.tail _ (.tail _ (.head _)))))
  have I0 : Inv ⟨prog2, w, K2 w, A, { B with heap := hideAll B.heap [61] }, env⟩ [("rows", .l aR []), ("spelled", .r d), ("stream", .l b (ts.reverse.map tk3P))] g0 { s with heap := h4, toks := tk4 } := by
    refine ⟨amb0, F4.keep, by rw [I.rest], ⟨I.frm.kind, I.frm.glob, I.frm.blt, h0none newL, ⟨m, F4.ns, fun x ct e hk => ?_⟩, fun x c e => ?_, fun x y c e => ?_, fun x ct e hk => ?_⟩, fun q hq => (by cases hq), keepT0⟩
    · obtain ⟨v, hv, y⟩ := hm x ct e hk
      refine ⟨v, hv, ?_⟩
      have hmem := lookup_mem e
      simp only [List.mem_cons, List.not_mem_nil, or_false, Prod.mk.injEq] at hmem
      rcases hmem with ⟨_, rfl⟩ | ⟨_, rfl⟩ | ⟨_, rfl⟩
      · exact ⟨y.1, [], ⟨nR, gR.1⟩, trivial⟩
      · exact y
      · refine ⟨y.1, vs, ⟨nb, F4.keep _ _ (toH0 eb b61)⟩, qb.mono fun _ _ z => (tupG z).keep F4.keep⟩
    · rw [show (⟨prog2, w, K2 w, A, { B with heap := hideAll B.heap [61] }, env⟩ : Cx).env.cells = [] from hcells] at e; cases e
    · rw [show (⟨prog2, w, K2 w, A, { B with heap := hideAll B.heap [61] }, env⟩ : Cx).env.cells = [] from hcells] at e; cases e
    · exfalso
      obtain ⟨c, v, e1, _⟩ := I.frm.cv x ct e hk
      have e1' : env.cells.lookup x = some c := e1
      rw [hcells] at e1'; cases e1'
  have I1 := I0.grow [aR] (fun a ha => by rw [List.mem_singleton] at ha; subst ha; exact h0none hR)
  have toG : ∀ {x o}, h4.get? x = some o → x ≠ env.locals → x ≠ aR → (hideAll h4 [env.locals, aR]).get? x = some o := fun {x o} e h1 h2 => hideAll_get _ e (by simp [h1, h2])
  have baseG : ∀ {x o}, (hideAll B.heap [61]).get? x = some o → (hideAll h4 [env.locals, aR]).get? x = some o := fun {x o} e => toG (F4.keep _ _ e) (fun q => by rw [q, h0none newL] at e; cases e) (fun q => by rw [q, h0none hR] at e; cases e)
  refine k D { s with heap := h4, toks := tk4 } (outOf ts p) I1 ?_ ?_ (out_read full hps hpp hpk) (out_bd full hpp) ?_ ?_ ?_ (by rw [I.rest])
  · exact ⟨kvs, ⟨oD, esD, epD, toG gd.1 hLd.symm Rd, hxD, hdD, rD⟩, aD⟩
  · refine ⟨_, ⟨cD, toG gD.1 gD.2.1 DR⟩, (out_all qb hpp).mono fun _ _ z => (tupG z).keep fun x o e => baseG e⟩
  · unfold outOf; rw [List.length_map, Array.length_toList, hps]; omega
  · intro x o hx e
    exact baseG (toH0 e hx)
  · exact ⟨ps, toG g61.1 L61.symm R61.symm⟩
end Mine

namespace Mine
structure RBd (rows : List Str) (i : Nat) : Prop where
  len : rows.length ≤ 60
  row : ∀ r ∈ rows, r.length ≤ 300 + 3 * i
theorem RBd.succ {rows : List Str} {i : Nat} (h : RBd rows i) : RBd rows (i + 1) := ⟨h.len, fun r hr => by have := h.row r hr; omega⟩
theorem fillR_mem {rows : List Str} {n : Nat} {r : Str} (h : r ∈ fillR rows n) : r ∈ rows ∨ r = Str.empty := by
  unfold fillR at h
  rcases List.mem_append.mp h with h | h
  · exact .inl h
  · exact .inr (List.mem_replicate.mp h).2
theorem fillR_bd {rows : List Str} {n i : Nat} (h : RBd rows i) (hn : n ≤ 60) : RBd (fillR rows n) i := by
  refine ⟨?_, fun r hr => ?_⟩
  · unfold fillR; have := h.len; simp; omega
  · rcases fillR_mem hr with h' | rfl
    · exact h.row r h'
    · show 0 ≤ _; omega
theorem ett_len3 : ∀ p ∈ ettL, p.1.length ≤ 3 := by decide +kernel
theorem spE_len (k : Int) : (spE k).length ≤ 3 := by
  unfold spE
  cases h : ettL.find? fun p => p.2 = k with
  | none => show qm.length ≤ 3; decide +kernel
  | some p => exact ett_len3 p (List.mem_of_find?_eq_some h)
theorem getLastD_mem {l : List Str} (h : l ≠ []) : l.getLastD Str.empty ∈ l := by
  cases hr : l with
  | nil => exact absurd hr h
  | cons a r => rw [List.getLastD_cons]; exact List.getLastD_mem_cons
theorem wrR_bd {rows : List Str} {t : Tok3} {i : Nat} (h : RBd rows i) (h1 : 1 ≤ t.1) (h2 : t.1 ≤ 60) (h3 : t.2.1 ≤ 300) : RBd (wrR rows t) (i + 1) := by
  have hf := fillR_bd (n := t.1) h h2
  have hne : fillR rows t.1 ≠ [] := by
    unfold fillR
    intro q
    have := congrArg List.length q
    rw [List.length_append, List.length_replicate, List.length_nil] at this; omega
  have hl := hf.row _ (getLastD_mem hne)
  have hs := spE_len t.2.2
  unfold wrR
  refine ⟨?_, fun r hr => ?_⟩
  · have := hf.len
    have := List.length_pos_iff.mpr hne
    simp; omega
  · rcases List.mem_append.mp hr with hr | hr
    · have := hf.row r (List.dropLast_subset _ hr); omega
    · rw [List.mem_singleton] at hr
      rw [hr, Str.length_append, Str.length_append, sp_len]
      omega
theorem rdStep_bd {rows : List Str} {t : Tok3} {i : Nat} (h : RBd rows i) (h1 : 1 ≤ t.1) (h2 : t.1 ≤ 60) (h3 : t.2.1 ≤ 300) : RBd (rdStep rows t) (i + 1) := by
  unfold rdStep
  split
  · exact wrR_bd h h1 h2 h3
  · exact h.succ
theorem rdl_snoc {out : List Tok3} {i : Nat} {t : Tok3} (h : out[i]? = some t) : rdl (out.take (i + 1)) = rdStep (rdl (out.take i)) t := by
  unfold rdl
  rw [List.take_add_one, h]; simp [List.foldl_append]
theorem readD_at {out : List Tok3} {i : Nat} {t : Tok3} {rows : List Str} (h : out[i]? = some t) : readD (out.drop i) rows = if t.2.2 = 0 then some (fillR rows (t.1 - 1)) else readD (out.drop (i + 1)) (rdStep rows t) := by
  obtain ⟨hi, rfl⟩ := List.getElem?_eq_some_iff.mp h
  rw [List.drop_eq_getElem_cons hi]; rfl
def tkA (t : Tok3) : List At := [.str (placeS t.1 t.2.1), .int t.2.2]
/-- spelled's answer -/
theorem spd_get {w : World} {d : Addr} {h : Heap} (x : Spd w d 48 h) : ∃ g, h.MapOf (intKind prog2 w) d g ∧ ∀ k v, (∃ t, v = .str qm t) → ∃ t, (g k).getD v = .str (spE k) t := by
  obtain ⟨kvs, hd, q⟩ := x
  refine ⟨valueAt kvs, hd.mapOf, fun k v hv => ?_⟩
  rw [List.take_of_length_le (by rw [ettL_len]; decide)] at q
  unfold valueAt spE
  clear hd
  generalize ettL = l at q
  induction l generalizing kvs with
  | nil =>
    match kvs, q with
    | [], _ => exact hv
  | cons p l ih =>
    match kvs, q with
    | kv :: kvs, ⟨⟨e1, t, e2⟩, r⟩ =>
      by_cases hk : p.2 = k
      · rw [List.find?_cons_of_pos (by simpa using e1.trans hk), List.find?_cons_of_pos (by simpa using hk)]
        exact ⟨t, e2⟩
      · rw [List.find?_cons_of_neg (by rw [e1]; simpa using hk), List.find?_cons_of_neg (by simpa using hk)]
        exact ih kvs r
end Mine

namespace Mine
set_option maxHeartbeats 4000000 in
theorem read_ok (w : World) {ts : List Tok3} {rows : List Str} (full : Full rows ts) (h2 : 2 ≤ ts.length) : ∀ A s b, AOk 4 A → Amb (K2 w) s.heap → LamH s.heap → Lst s.heap b (ts.reverse.map tk3P) → codeAny (model prog2 w) A (.call (.ref 64) ⟨[.ref b], []⟩)
    (fun r s' => ∃ a, r = .ok (.ret (.ref a)) ∧ KeepBut 61 s.heap s'.heap ∧ (∃ ps, s'.heap.get? 61 = some (tabObj ps)) ∧ s' = { s with heap := s'.heap, toks := s'.toks } ∧ Lst s'.heap a (rows.map pS)) s := by
  intro A s b hA amb X hL
  refine enter (f := 64) (σ₀ := [("stream", .l b (ts.reverse.map tk3P))]) (binds := [("stream", .ref b)]) (by rfl) (by rfl) (by have := hA.depth; omega) amb (by rfl) (by simp) ⟨⟨rfl, rfl, hL⟩, trivial⟩ (fun s₁ I => ?_)
  have hA3 : ∀ env, AOk 3 (A.deeper env) := fun env => AOk.deeper hA
  have hA1 : ∀ env, AOk 1 (A.deeper env) := fun env => (hA3 env).le (by decide)
  have hh := hA.handled
  refine W.assignDict I (by rfl) (fun d s₂ hd hdle I2 hobj hLd => ?_)
  have hdB := none_from I.keep hd
  have hdsys : (d == sysModules) = false := by
    have h15 : 15 < s₁.heap.objs.size := by
      obtain ⟨kvs, ep, ⟨o, es, ho, _⟩, _⟩ := dictAt15 w I.ambH.inK
      exact Heap.lt_size ho
    have : d ≠ sysModules := fun q => by rw [q] at hdle; exact absurd (Nat.lt_of_lt_of_le h15 hdle) (by decide)
    exact beq_eq_false_iff_ne.mpr this
  refine fill_ok w (hA3 _).handled I2 hobj hdB hLd (fun q hq => by cases hq) (by rfl) (by rfl) (by rfl) (by rfl) (fun s₃ I3 sp3 => ?_)
  refine wpAny_execs_cons (wpAny_Assign_Name (wpAny_mono (list_raw (ps := []) (by exact .nil) (by decide) I3) (fun v s₄ ⟨e4, aR, q1, haR, q3⟩ => (I3.ext e4).storeLoc' (ct := .l aR []) ⟨q1, q3⟩ (by rfl) fun s₅ I5 kl => ?_) fun _ _ x => x.elim) (by rfl))
  have hRB := none_from I3.keep haR
  have sp5 : Spd w d 48 s₅.heap := (sp3.keep e4.keep).but hLd kl
  refine wpAny_execs_cons (wpAny_For (sort_site w (hA3 _) full h2 I5 X (Nat.le_refl _) hL hRB hdB hLd sp5 (by rfl) (by rfl) (by rfl) (by rfl) (by rfl) (by rfl) (fun D s₆ out I6 sp6 hD hread hbd hlen kb h61 hrest => ?_)))
  obtain ⟨g, hmap, hget⟩ := spd_get sp6
  refine loopT (c := ⟨prog2, w, K2 w, _, growB ⟨prog2, w, K2 w, _, s, _⟩ s₆ [aR], _⟩) (tl := out.map tkA) (xs := [("place", _), ("kind", _)]) (Rt := fun v s' => ∃ a, v = .ref a ∧ KeepH (hideAll s₆.heap [s.heap.objs.size, aR]) s'.heap ∧ s' = { s₆ with heap := s'.heap, toks := s'.toks } ∧ Lst s'.heap a (rows.map pS))
    (fun i => [("rows", .l aR ((rdl (out.take i)).map pS)), ("spelled", .r d)]) (fun i => readD (out.drop i) (rdl (out.take i)) = some rows ∧ RBd (rdl (out.take i)) i) ⟨hread, by simp [rdl], by simp [rdl]⟩ (hA3 _).handled (by rfl)
    (I6.sub ?_) (by rw [List.map_map]; exact hD) ?_ ?_ (fun i l γ' s' hl hlv hγ I7 => ?_) (fun s' hlv I7 => ?_) (fun v s' hr => ?_)
  · simp only [List.forall_mem_cons]
    exact ⟨rfl, rfl, by simp⟩
  · intro l hl
    obtain ⟨t, _, rfl⟩ := List.mem_map.mp hl
    rfl
  · simp only [List.forall_mem_cons]
    exact ⟨.inl rfl, .inl rfl, by simp⟩
  · rw [List.getElem?_map] at hl
    cases hx : out[i]? with
    | none => rw [hx] at hl; cases hl
    | some t =>
    rw [hx] at hl; cases hl
    obtain ⟨hread', hbdR⟩ := hlv
    rw [readD_at hx] at hread'
    have hbt := hbd t (List.mem_of_getElem? hx)
    have hi : i < 19 := Nat.lt_of_lt_of_le (List.getElem?_eq_some_iff.mp hx).1 hlen
    rw [rdl_snoc hx]
    generalize rdl (out.take i) = R at hread' hbdR I7 ⊢
    have hRl := hbdR.len
    obtain ⟨hlc, hfit⟩ := place_lc (n := t.1) (m := t.2.1) (by omega) (by omega)
    have hRB2 : (hideAll s₆.heap [s.heap.objs.size, aR]).get? aR = none := hideAll_none _ (.tail _ (.head _))
    have hγR : ∀ q ∈ γ'.objs, q.1 ≠ aR := fun q hq => (hγ q hq).elim (fun h => by cases h) fun h => by
      rintro rfl
      obtain ⟨vs, ⟨n, e⟩, _⟩ := I6.list (x := "rows") rfl rfl
      rw [h] at e; cases e
    refine W.assign (p := .t [.int t.1, .int t.2.1]) I7 (.call (glc2 w _ hfit _ _ hlc) (hA1 _) (by rfl) (by rfl) (by rfl) (.cons (.var rfl rfl rfl) .nil)) (.inl rfl) (fun s₈ I8 => ?_)
    refine W.ite (b := false) I8 (.or2 (a := false) (b := false) (.not (b := true) (.val (.isiTup (l := [.int t.1, .int t.2.1]) (.var rfl rfl rfl)))) (fun _ => .cmp (x := .l []) (y := .l []) ?_ (.list (ps := []) (by exact .nil)) (.neL (hA1 _) (by rfl)))) (fun s₉ I9 => ?_)
    · have hE : ∀ l : List Pt, [] = l.flatMap (fun _ => ([] : List Pt)) := fun l => by simp
      rw [hE (([.int t.1, .int t.2.1] : List At).map .a)]
      refine (ExpF.comp [] [] (fun _ => []) (.tup (hA3 _).handled (.var rfl rfl rfl)) ⟨by rfl, by decide, by rfl, by decide, by rfl, (fun y b e => (by cases e)), (fun p hp => (by cases hp))⟩ (by simp only [List.length_map, List.length_cons, List.length_nil]; unfold sizeLine; omega) (fun C B p γ'' hp => ?_)).exp
      obtain ⟨kk, rfl⟩ : ∃ kk, p = pI kk := by
        simp only [List.map_cons, List.map_nil, List.mem_cons, List.not_mem_nil, or_false] at hp
        rcases hp with h | h <;> exact ⟨_, h⟩
      exact .skip (.val (.isiIntBool (.var rfl rfl rfl)))
    rw [if_neg (by simp)]
    refine W.nil ?_
    refine W.unpack (as := [.int t.1, .int t.2.1]) [("line", _), ("column", _)] (hA3 _).handled I9 (.var rfl rfl rfl) (by rfl) (by rfl) (by simp only [List.forall_mem_cons]; exact ⟨.inl rfl, .inl rfl, by simp⟩) (fun s₁₀ I10 => ?_)
    refine W.assignF (ps := [pB (t.2.2 == 0), pB (decide (t.2.2 < 256)), pB (decide (256 ≤ t.2.2))]) I10 (.list (by exact .cons (.call (iseof2 w _) (hA1 _) (by rfl) (by rfl) (by rfl) (.cons (.var rfl rfl rfl) .nil)) (.cons (.call (isterm2 w _) (hA1 _) (by rfl) (by rfl) (by rfl) (.cons (.var rfl rfl rfl) .nil)) (.cons (.call (isnont2 w _) (hA1 _) (by rfl) (by rfl) (by rfl) (.cons (.var rfl rfl rfl) .nil)) .nil)))) (.inl rfl) (fun aT s₁₁ haT I11 => ?_)
    have hbb : (decide (t.2.2 < 256) == decide (256 ≤ t.2.2)) = false := by
      by_cases h : t.2.2 < 256
      · rw [decide_eq_true h, decide_eq_false (by omega)]; rfl
      · rw [decide_eq_false h, decide_eq_true (by omega)]; rfl
    refine W.ite (b := false) I11 (.or2 (a := false) (b := false) (.cmp (x := .l []) (y := .l []) ?_ (.list (ps := []) (by exact .nil)) (.neL (hA1 _) (by rfl))) (fun _ => ?_)) (fun s₁₂ I12 => ?_)
    · have hE : ∀ l : List Pt, [] = l.flatMap (fun _ => ([] : List Pt)) := fun l => by simp
      rw [hE [pB (t.2.2 == 0), pB (decide (t.2.2 < 256)), pB (decide (256 ≤ t.2.2))]]
      refine (ExpF.comp [] [] (fun _ => []) (.any (hA3 _).handled (.var rfl rfl rfl)) ⟨by rfl, by decide, by rfl, by decide, by rfl, (fun y b e => (by cases e)), (fun p hp => (by cases hp))⟩ (by simp only [List.length_cons, List.length_nil]; unfold sizeLine; omega) (fun C B p γ'' hp => ?_)).exp
      obtain ⟨bb, rfl⟩ : ∃ bb, p = pB bb := by
        simp only [List.mem_cons, List.not_mem_nil, or_false] at hp
        rcases hp with h | h | h <;> exact ⟨_, h⟩
      exact .skip (.not (b := true) (.val (.isiBoolBool (.var rfl rfl rfl))))
    · rw [← hbb]
      exact .cmp (.item (ps := [pB (t.2.2 == 0), pB (decide (t.2.2 < 256)), pB (decide (256 ≤ t.2.2))]) (k := 1) (.var rfl rfl rfl) .cInt rfl (by simp only [List.length_cons, List.length_nil]; omega) (by decide)) (.item (ps := [pB (t.2.2 == 0), pB (decide (t.2.2 < 256)), pB (decide (256 ≤ t.2.2))]) (k := 2) (.var rfl rfl rfl) .cInt rfl (by simp only [List.length_cons, List.length_nil]; omega) (by decide)) .eqB
    rw [if_neg (by simp)]
    refine W.nil ?_
    refine W.ite (b := t.2.2 == 0) I12 (.val (.item (ps := [pB (t.2.2 == 0), pB (decide (t.2.2 < 256)), pB (decide (256 ≤ t.2.2))]) (k := 0) (.var rfl rfl rfl) .cInt rfl (by simp only [List.length_cons, List.length_nil]; omega) (by decide))) (fun s₁₃ I13 => ?_)
    by_cases h0 : t.2.2 = 0
    · rw [if_pos h0] at hread'
      rw [show (t.2.2 == 0) = true by rw [h0]; rfl, if_pos rfl]
      have hrows : rows = fillR R (t.1 - 1) := (Option.some.inj hread').symm
      refine W.retF I13 (.addL (.var rfl rfl rfl) (.mulL (.list (ps := [pS Str.empty]) (by exact .cons .cStr .nil)) (.sub (.sub (.var rfl rfl rfl) .cInt) (.lenN (n := R.length) (.var rfl rfl rfl) (List.length_map ..) (by omega))) (by omega) (by omega)) ?_) (fun a s₁₄ e14 hn hl => ?_)
      · rw [List.length_map, List.length_replicate]; unfold sizeLine; omega
      · refine ⟨a, rfl, fun x o e => e14.keep x o (I13.keep x o e), ?_, ?_⟩
        · have := (I13.toExt.trans e14).rest
          rw [this]
        · rw [hrows]
          unfold fillR
          rw [List.map_append, List.map_replicate]
          rw [show ((t.1 : Int) - 1 - (R.length : Int)).toNat = t.1 - 1 - R.length by omega] at hl
          exact hl
    · rw [if_neg h0] at hread'
      rw [show (t.2.2 == 0) = false by simp [h0], if_neg (by simp)]
      refine W.nil ?_
      refine W.ite (b := decide (t.2.2 < 256)) I13 (.val (.item (ps := [pB (t.2.2 == 0), pB (decide (t.2.2 < 256)), pB (decide (256 ≤ t.2.2))]) (k := 1) (.var rfl rfl rfl) .cInt rfl (by simp only [List.length_cons, List.length_nil]; omega) (by decide))) (fun s₁₄ I14 => ?_)
      have hbd' := rdStep_bd (t := t) hbdR hbt.2.1 hbt.2.2.1 hbt.2.2.2
      by_cases hk : t.2.2 < 256
      · rw [decide_eq_true hk, if_pos rfl]
        have hst : rdStep R t = wrR R t := by unfold rdStep; rw [if_pos hk]
        rw [hst] at hread' hbd' ⊢
        have hF : RBd (fillR R t.1) i := fillR_bd hbdR hbt.2.2.1
        have hne : fillR R t.1 ≠ [] := by
          intro q
          have := congrArg List.length q
          unfold fillR at this
          rw [List.length_append, List.length_replicate, List.length_nil] at this; omega
        have hlastL := hF.row _ (getLastD_mem hne)
        have hFl := hF.len
        have hFpos := List.length_pos_iff.mpr hne
        refine W.extend I14 rfl rfl (.mulL (.list (ps := [pS Str.empty]) (by exact .cons .cStr .nil)) (.sub (.var rfl rfl rfl) (.lenN (n := R.length) (.var rfl rfl rfl) (List.length_map ..) (by omega))) (by omega) (by omega)) hRB2 hγR (by rw [List.length_map, List.length_replicate]; omega) (fun s₁₅ I15 => ?_)
        have I15' : Inv _ [("column", cI t.2.1), ("kind", cI t.2.2), ("rows", .l aR ((fillR R t.1).map pS)), ("spelled", .r d)] γ' s₁₅ := I15.sub (by
          simp only [List.forall_mem_cons]
          refine ⟨rfl, rfl, ?_, rfl, by simp⟩
          show some (setL aR _ (.l aR _)) = _
          unfold fillR
          rw [List.map_append, List.map_replicate, show t.1 - R.length = ((t.1 : Int) - (R.length : Int)).toNat by omega]
          simp [setL])
        generalize hFe : fillR R t.1 = F at hF hne hlastL hFl hFpos I15'
        have hlastI : (F.map pS)[ix (-1) (F.map pS).length]? = some (pS (F.getLastD Str.empty)) := by
          have e0 : ix (-1) (F.map pS).length = F.length - 1 := by unfold ix; rw [if_pos (by decide), List.length_map]; omega
          rw [e0, List.getElem?_map, ← List.getLast?_eq_getElem?]
          rw [List.getLastD_eq_getLast?]
          cases hh : F.getLast? with
          | none => rw [List.getLast?_eq_none_iff] at hh; exact absurd hh hne
          | some r => rfl
        have hspl := spE_len t.2.2
        have hsp : sp (t.2.1 - (F.getLastD Str.empty).length) = ⟨(List.replicate (((t.2.1 : Int) - ((F.getLastD Str.empty).length : Int)).toNat) 32).toArray⟩ := by
          unfold sp
          rw [show ((t.2.1 : Int) - ((F.getLastD Str.empty).length : Int)).toNat = t.2.1 - (F.getLastD Str.empty).length by omega]
        refine W.setLast (p := pS (F.getLastD Str.empty ++ sp (t.2.1 - (F.getLastD Str.empty).length) ++ spE t.2.2)) (a := aR) (ps := F.map pS) I15' rfl rfl ?_ (.neg .cInt) (by simpa using hne) hRB2 hγR (by rw [List.length_map]; omega) (fun s₁₆ I16 => ?_)
        · rw [hsp]
          refine .addS (.addS (.item (ps := F.map pS) (.var rfl rfl rfl) (.neg .cInt) hlastI (by rw [List.length_map]; omega) (by decide)) (.mulS (d := 32) (i := (t.2.1 : Int) - ((F.getLastD Str.empty).length : Int)) .cStr (.sub (.var rfl rfl rfl) (.lenS (.item (ps := F.map pS) (.var rfl rfl rfl) (.neg .cInt) hlastI (by rw [List.length_map]; omega) (by decide)) (by omega))) (by omega)) ?_) (.dget (x := "spelled") (d := d) (k := t.2.2) (y := qm) (g := g) rfl rfl hdsys hmap (.var rfl rfl rfl) .cStr (hget _)) ?_
          · rw [← hsp, sp_len]; unfold sizeLine; omega
          · rw [← hsp, Str.length_append, sp_len]; unfold sizeLine; omega
        · refine W.nil (W.nil ⟨⟨hread', hbd'⟩, I16.sub ?_⟩)
          simp only [List.forall_mem_cons]
          refine ⟨?_, rfl, by simp⟩
          show some (setL aR _ (.l aR _)) = _
          unfold wrR
          rw [hFe]
          simp [setL, List.map_dropLast]
      · rw [decide_eq_false hk, if_neg (by simp)]
        have hst : rdStep R t = R := by unfold rdStep; rw [if_neg hk]
        rw [hst] at hread' hbd' ⊢
        refine W.nil (W.nil ⟨⟨hread', hbd'⟩, I14.sub ?_⟩)
        simp only [List.forall_mem_cons]
        exact ⟨rfl, rfl, by simp⟩
  · exfalso
    rw [List.length_map, List.drop_length] at hlv
    have := hlv.1
    cases this
  · obtain ⟨a, rfl, kk, hr', hl⟩ := hr
    obtain ⟨ps, hps⟩ := h61
    exact ⟨a, rfl, fun x o hx e => kk x o (kb x o hx e), ⟨ps, kk _ _ hps⟩, by rw [hr', hrest], hl⟩
end Mine

namespace Mine
theorem All2.reverse {α β : Type} {R : α → β → Prop} : ∀ {l : List α} {r : List β}, All2 R l r → All2 R l.reverse r.reverse
  | [], [], _ => trivial
  | a :: l, b :: r, h => by
    rw [List.reverse_cons, List.reverse_cons]
    exact (All2.reverse h.2).append ⟨h.1, trivial⟩
  | [], _ :: _, h => h.elim
  | _ :: _, [], h => h.elim
theorem strOk_append {x y : Str} (hx : PyData.strOk x = true) (hy : PyData.strOk y = true) : PyData.strOk (x ++ y) = true := by
  unfold PyData.strOk at *
  show (x.cps ++ y.cps).all _ = true
  rw [Array.all_append, hx, hy]; rfl
theorem strOk_sp (n : Nat) : PyData.strOk (sp n) = true := by
  unfold PyData.strOk sp
  rw [List.all_toArray, List.all_eq_true]
  intro d hd
  rw [(List.mem_replicate.mp hd).2]; rfl
theorem strOk_spl : ∀ r ∈ spl, PyData.strOk r = true := by decide +kernel
theorem strOk_splK (k : Int) : PyData.strOk (splK k) = true := by
  unfold splK
  rw [List.getD_eq_getElem?_getD]
  cases h : spl[k.toNat]? with
  | none => show PyData.strOk qm = true; decide +kernel
  | some r => exact strOk_spl r (List.mem_of_getElem? h)
theorem stepD_strOk {d : DS} (x : Int) (hne : d.rows ≠ []) (h : ∀ r ∈ d.rows, PyData.strOk r = true) : ∀ r ∈ (stepD d x).rows, PyData.strOk r = true := by
  unfold stepD
  split
  · intro r hr
    rcases List.mem_append.mp hr with hr | hr
    · exact h r hr
    · rw [(List.mem_replicate.mp hr).2]; decide +kernel
  · split
    · exact h
    · split
      · intro r hr
        rcases List.mem_append.mp hr with hr | hr
        · exact h r (List.dropLast_subset _ hr)
        · rw [List.mem_singleton] at hr
          rw [hr]
          exact strOk_append (strOk_append (h _ (lastR_mem hne)) (strOk_sp _)) (strOk_splK _)
      · exact h
theorem drawn_strOk (ns : List Int) : ∀ r ∈ (drawnD ns).rows, PyData.strOk r = true := by
  have : ∀ i, i ≤ ns.length → ∀ r ∈ ((ns.take i).foldl stepD ⟨[Str.empty], [], 0⟩).rows, PyData.strOk r = true := by
    intro i
    induction i with
    | zero =>
      intro _ r hr
      have : r = Str.empty := by simpa using hr
      rw [this]; decide +kernel
    | succ i ih =>
      intro hi
      rw [foldl_snoc ns i (ns[i]'(by omega)) _ (List.getElem?_eq_getElem (by omega))]
      exact stepD_strOk _ (drawn_ok' ns i).ne (ih (by omega))
  have h := this ns.length (Nat.le_refl _)
  rw [List.take_length] at h
  exact h
theorem stepD_str (d : DS) (x : Int) : d.str.length ≤ (stepD d x).str.length := by
  unfold stepD
  split
  · exact Nat.le_refl _
  · split
    · exact Nat.le_refl _
    · split <;> simp
theorem foldl_str : ∀ (ns : List Int) (d : DS), d.str.length ≤ (ns.foldl stepD d).str.length
  | [], d => Nat.le_refl _
  | x :: ns, d => Nat.le_trans (stepD_str d x) (foldl_str ns _)
theorem drawn_one (l : List Int) : 1 ≤ (drawnD ([508, 45] ++ l)).str.length := by
  unfold drawnD
  rw [List.foldl_append]
  refine Nat.le_trans ?_ (foldl_str l _)
  decide +kernel
theorem rows_ok (ns : List Int) : ((drawnD ns).rows.map pS).all Pt.ok = true := by
  rw [List.all_map, List.all_eq_true]
  intro r hr
  exact drawn_strOk ns r hr
noncomputable abbrev lawCx2 (w : World) (s₁ : Shared) (qual : Str) (scope : Scope) (fa : Addr) (cdv : Value) : Cx :=
  ⟨prog2, w, K2 w, callerA.deeper (envOf qual scope s₁.heap.objs.size fa cdv), s₁, envOf qual scope s₁.heap.objs.size fa cdv⟩
theorem start2 {w : World} {s₁ : Shared} {h₁ : Heap} {qual : Str} {scope : Scope} {fa : Addr} {cdv : Value} {a : Addr} {ns : List Int} {tk : Nat} {m : Str → Option Value} {body : List Stmt} {Q : Flow → Shared → Prop} {E : Value → Shared → Prop}
    (hT : s₁.heap.get? 61 = some (tabObj #[])) (F : Fr (ghostOf s₁.heap [(63, 61)]) s₁.heap.objs.size h₁ m) (N : News (ghostOf s₁.heap [(63, 61)]) s₁.heap.objs.size h₁ [(61, tabObj #[])]) (hm : m "script" = some (.ref a)) (hk : scope.kind = .function) (hks : scope.names.lookup ("script" : Str) = some NameKind.local) (amb : Amb (K2 w) s₁.heap) (hl : Lst s₁.heap a (ns.map pI))
    (k : ∀ s, Inv (lawCx2 w s₁ qual scope fa cdv) [("script", .l a (ns.map pI))] g0 s → W (lawCx2 w s₁ qual scope fa cdv) body Q E s) :
    wpAny (model prog2 w) (callerA.deeper (envOf qual scope s₁.heap.objs.size fa cdv)) (execs body (envOf qual scope s₁.heap.objs.size fa cdv)) Q E { s₁ with heap := h₁, toks := tk } := by
  have keep : KeepH s₁.heap h₁ := fun b o e => by
    by_cases hb : b = 61
    · subst hb
      rw [hT] at e; cases e
      exact (N _ (.head _)).1
    · exact F.keep b o (hideAll_get _ e (by simpa using hb))
  refine k _ ⟨amb, keep, rfl, ⟨hk, rfl, rfl, Heap.get?_none_of_le (Nat.le_refl _), ⟨m, F.ns, fun x ct e _ => ?_⟩, fun x c e => (by cases e), fun x y c e => (by cases e), fun x ct e hkx => ?_⟩, fun q hq => (by cases hq), keepT0⟩
  · rw [List.lookup_cons] at e
    cases hx : x == ("script" : Str) with
    | false => rw [hx] at e; cases e
    | true =>
      rw [hx] at e; cases e
      rw [beq_iff_eq.mp hx]
      exact ⟨_, hm, rfl, hl.keep keep⟩
  · rw [List.lookup_cons] at e
    cases hx : x == ("script" : Str) with
    | false => rw [hx] at e; cases e
    | true =>
      rw [hx] at e; cases e
      rw [beq_iff_eq.mp hx] at hkx
      have e2 : (envOf qual scope s₁.heap.objs.size fa cdv).kindOf "script" = some .local := hks
      rcases hkx with q | q <;> (rw [e2] at q; cases q)
theorem lawA2 {env : Env} : AOk 5 (callerA.deeper env) := ⟨rfl, (by show callerA.depth + 1 + 5 < recursionLimit; decide), (by show callerA.units + 3 + 10 * 5 < 9000; decide)⟩
theorem wellAll_ints {P : Params} {h : Heap} : ∀ {ns : List Int} {vs : List Value}, WellAll P h vs (ofPys (ns.map PyData.int)) → All2 (Pt.Is h) (ns.map pI) vs
  | [], _, x => by cases x; trivial
  | n :: ns, _, x => by
    cases x with
    | cons hx hr =>
      cases hx with
      | int i t => exact ⟨⟨t, rfl⟩, wellAll_ints hr⟩
theorem well_list {P : Params} {h : Heap} {a : Addr} {ns : List Int} (x : Well P h (.ref a) (ofPy (PyData.list (ns.map PyData.int)))) : Lst h a (ns.map pI) := by
  cases x with
  | list e r => exact ⟨_, ⟨0, e⟩, wellAll_ints r⟩
/-- x, y = a tuple of two lists -/
theorem W.unpackL {c : Cx} {σ : List (Str × Ct)} {γ : Gh} {s : Shared} {rest : List Stmt} {Q : Flow → Shared → Prop} {E : Value → Shared → Prop} {x y : Str} {px py : Pos} {e : PySem.Expr} {tk : Nat} {tpos pos : Pos} {ps qs : List Pt} {P : Addr → Addr → Prop} (hh : c.A.handled = none) (I : Inv c σ γ s)
    (he : wpAny c.M c.A (eval e c.env) (fun v s' => Ext s s' ∧ ∃ t a b, v = .ref t ∧ IsTup s'.heap t #[.ref a, .ref b] ∧ P a b ∧ Lst s'.heap a ps ∧ Lst s'.heap b qs) no s) (hx : c.env.kindOf x = some .local) (hy : c.env.kindOf y = some .local)
    (k : ∀ a b s', P a b → Inv c ((y, .l b qs) :: (x, .l a ps) :: σ) γ s' → W c rest Q E s')
    (hs : swapsWithSole [.Tuple [.Name x px, .Name y py] tk tpos] e pos.line c.env = pure false := by rfl) (hw : swappedStores [.Tuple [.Name x px, .Name y py] tk tpos] e c.env = pure none := by rfl) :
    W c (.Assign [.Tuple [.Name x px, .Name y py] tk tpos] e pos :: rest) Q E s := by
  refine wpAny_execs_cons (wpAny_Assign_stores (wpAny_mono he (fun v s₁ ⟨e1, t, a, b, q, ht, hP, ha, hb⟩ => ?_) fun _ _ x => x.elim) hs hw)
  subst q
  obtain ⟨o, ho, hc, n, hd⟩ := ht
  show wpAny _ _ (PySem.assign (.Tuple _ tk tpos) c.env (.ref t)) _ _ _
  refine wpAny_assign_Tuple hh ⟨o, ho, hc, n, hd⟩ (by rfl) (by rfl) fun h' hk => ?_
  have e2 : Ext s₁ { s₁ with heap := h' } := .heap fun b o e => hk b o (Nat.ne_of_lt (Heap.lt_size e)) e
  have I2 := (I.ext e1).ext e2
  show wpAny c.M c.A (do holding [.ref b] (PySem.assign (.Name x px) c.env (.ref a)); do holding [] (PySem.assign (.Name y py) c.env (.ref b)); pure ()) _ _ _
  refine wpAny_bind (wpAny_holding (wpAny_assign_Name (I2.storeLoc' (ct := .l a ps) ⟨rfl, ha.keep e2.keep⟩ hx fun s₃ I3 kl => ?_)))
  obtain ⟨m, ⟨oL, es, ep, hoL, hdL, _⟩, _⟩ := I2.frm.loc
  have hb3 : Lst s₃.heap b qs := (hb.keep e2.keep).other hoL (fun _ _ e => by rw [hdL] at e; cases e) kl
  refine wpAny_bind (wpAny_holding (wpAny_assign_Name (I3.storeLoc' (ct := .l b qs) ⟨rfl, hb3⟩ hy fun s₄ I4 _ => ?_)))
  exact wpAny_pure (k a b s₄ hP I4)
end Mine

namespace Mine
set_option maxHeartbeats 8000000 in
theorem law2 : PySem.Challenge.rw_mr0163_02.Holds := by
  refine hd2 ?_
  k_go0
  rename_i w s₀ s₁ mg mb G Y fa o pm cd doc kV ho hcd hg X V T B TE TW ns hs hlay0 hL1 hr1 hl2 w4 w3 a vs w' hL ra w1 r0 hI hr hc1 hc2 hD h₁ X' T' K' F N l0
  have hl := well_list w1
  have h61 := hT8 61 (.head _)
  have amb : Amb (K2 w) s₁.heap := ⟨fun x o e => of_hideAll _ (X' x o e), _, _, _, _, topRead_of T⟩
  have lam : LamH s₁.heap := ⟨⟨mg, T.g, T.bmain⟩, (hT9 (63, 61) (.head _)).1, h61⟩
  have hlen : ns.length ≤ 63 := by omega
  clear G Y o ho X V T B TE TW hs hlay0 hL1 hr1 hl2 w4 w3 vs w' hL ra w1 r0 hI hr hc1 hc2 hD X' T' K' l0 hcd lifted codeHd hT8 hT9
  refine start2 h61 F N rfl rfl rfl amb hl (fun s I => ?_)
  have hn18 : ([508, 45] ++ ns.take 16).length ≤ 18 := by rw [List.length_append, List.length_take]; simp only [List.length_cons, List.length_nil]; omega
  obtain ⟨ts, hts, full⟩ := drawn_full ([508, 45] ++ ns.take 16) hn18
  have h2 : 2 ≤ ts.length := by
    have h1 := drawn_one (ns.take 16)
    have := congrArg List.length hts
    rw [List.length_append, List.length_singleton, List.length_map] at this
    omega
  have hmap : ((drawnD ([508, 45] ++ ns.take 16)).str ++ [(placeS ((drawnD ([508, 45] ++ ns.take 16)).rows.length + 1) 0, 0)]).map tokP = ts.map tk3P := by
    rw [hts, List.map_map]; rfl
  have hrok := rows_ok ([508, 45] ++ ns.take 16)
  have hdr := drawn_ok w ([508, 45] ++ ns.take 16) hn18
  generalize hD : drawnD ([508, 45] ++ ns.take 16) = d at full hrok hdr hmap hts
  refine W.unpackL (ps := d.rows.map pS) (qs := ts.map tk3P) (P := fun _ _ => True) lawA2.handled I ?_ (by rfl) (by rfl) (fun aD aG s₂ _ I2 => ?_)
  · refine call_raw I (f := 59) (nm := "_law_drawn") (xs := [.l (([508, 45] ++ ns.take 16).map pI)]) (by rfl) (by rfl) (by rfl) (.cons ?_ .nil) (fun vs s₃ e3 q => ?_)
    · rw [List.map_append, List.map_take]
      refine .addL (.list (ps := [pI 508, pI 45]) (by exact .cons .cInt (.cons .cInt .nil))) (.uptoL (n := 16) (.var rfl rfl rfl) .cInt (by rw [List.length_map]; unfold sizeLine; omega)) ?_
      rw [List.length_take, List.length_map]; simp only [List.length_cons, List.length_nil]; unfold sizeLine; omega
    · match vs, q with
      | [v], ⟨⟨b, hv, hLb⟩, _⟩ =>
      subst hv
      refine wpAny_call (codeAny_mono (hdr _ s₃ b (AOk.le lawA2 (by decide)) (I.ext e3).ambH hLb) (fun r s' ⟨v, hr, ex, hdd⟩ => ?_))
      subst hr
      obtain ⟨t, a', b', rfl, ht, pa, pb, hab, la, lb⟩ := hdd
      exact ⟨e3.trans ex, t, a', b', rfl, ht, trivial, la, hmap ▸ lb⟩
  refine wpAny_execs_cons (wpAny_Return_some (wpAny_Compare1 ?_))
  refine call_raw I2 (f := 64) (nm := "_law_read") (xs := [.l (ts.reverse.map tk3P)]) (by rfl) (by rfl) (by rfl) (.cons ?_ .nil) (fun vs s₃ e3 q => ?_)
  · have hl19 := full.len
    exact fun s I => wpAny_mono (sliceL_raw (ps := ts.map tk3P) (qs := ts.reverse.map tk3P) (k := some (-1)) (.var rfl rfl rfl) Prt.none Prt.none (Prt.some (.neg .cInt)) (by decide) (by rw [List.length_map]; unfold sizeLine; omega)
      (fun h vs q => ⟨vs.reverse, krv_pick _, by rw [List.map_reverse]; exact q.reverse⟩) (fun _ _ => ⟨_, by with_unfolding_all rfl⟩) I) (fun v s' ⟨e1, a, q1, _, q2⟩ => ⟨e1, a, q1, q2⟩) fun _ _ x => x
  match vs, q with
  | [v], ⟨⟨b, hv, hLb⟩, _⟩ =>
  subst hv
  have I3 := I2.ext e3
  refine wpAny_call (codeAny_mono (read_ok w full h2 _ s₃ b (AOk.le lawA2 (by decide)) I3.ambH (lam.keep I3.keep) hLb) (fun r s₄ ⟨a', hr, kb, hg61, hrest, hLa⟩ => ?_))
  subst hr
  have I3g := I3.shrink (amb_hide amb lam) (fun b o e => of_hideAll _ e)
  have hL61 : (61 : Addr) ≠ s₁.heap.objs.size := Nat.ne_of_lt (Heap.lt_size h61)
  have I4 := I3g.chg' (h' := s₄.heap) (tk := s₄.toks) (a := 61) (oa := tabObj #[]) (I3.keep _ _ h61) (fun _ _ e => by cases e) (fun _ e => by cases e) hL61 (hideAll_none _ (.head _)) (fun p hp => by cases hp) kb
  rw [← hrest] at I4
  refine var_raw (c := (lawCx2 w s₁ _ _ fa cd).re { s₁ with heap := hideAll s₁.heap [61] }) I4 (x := "due") (ct := .l aD (d.rows.map pS)) rfl rfl (fun v hv => ?_)
  refine wpAny_mono (Cmp.eqL (c := (lawCx2 w s₁ _ _ fa cd).re { s₁ with heap := hideAll s₁.heap [61] }) lawA2 hrok s₄ _ _ I4 ⟨a', rfl, hLa⟩ ⟨aD, hv.1, hv.2⟩) (fun v s₅ ⟨e5, q⟩ => ?_) fun _ _ x => x.elim
  subst q
  have ex := I4.toExt.trans e5
  obtain ⟨pt, hpt⟩ := hg61
  refine ⟨⟨.inl ⟨.bool true, .bool true, [], rfl, raisesW_false ?_, .bool true, ?_, unshared_nil⟩, ex.keep, (by rw [ex.rest]), (by rw [ex.rest]; exact hg)⟩, ⟨pt, e5.keep _ _ hpt⟩, trivial⟩
  · wrow_none_raised
  · kc_post
end Mine
theorem PySem.Challenge.cw_mr0163_02_holds : PySem.Challenge.rw_mr0163_02.Holds :=
  Mine.law2

