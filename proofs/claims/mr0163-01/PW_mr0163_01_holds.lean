import PyProof.Rows.All
import Wide.All
import OpenK.AllK
import Wide.FinOn
import Lean
import PySem.Challenge.RW_mr0163_01
open PySem PySem.W PyProof.Rows PySem.Calls
set_option Elab.async false
set_option maxRecDepth 100000
set_option linter.unusedVariables false
set_option linter.unusedSimpArgs false
namespace Mine
set_option maxHeartbeats 8000000 in
open_top hd1 for PySem.Challenge.rw_mr0163_01
end Mine

namespace Mine

/-! ## plain data and what bears it in a heap -/
inductive At where
  | none
  | bool (b : Bool)
  | int (i : Int)
  | str (x : Str)
def At.Is (a : At) (v : Value) : Prop := match a with
  | .none => v = .none
  | .bool b => v = .bool b
  | .int i => ∃ t, v = .int i t
  | .str x => ∃ t, v = .str x t

def All2 {α β : Type} (R : α → β → Prop) : List α → List β → Prop
  | [], [] => True
  | a :: l, b :: r => R a b ∧ All2 R l r
  | _, _ => False
theorem All2.length {α β : Type} {R : α → β → Prop} : ∀ {l : List α} {r : List β}, All2 R l r → l.length = r.length
  | [], [], _ => rfl
  | _ :: _, _ :: _, h => by simp [All2.length h.2]
  | [], _ :: _, h => h.elim
  | _ :: _, [], h => h.elim
theorem All2.mono {α β : Type} {R S : α → β → Prop} (f : ∀ a b, R a b → S a b) : ∀ {l : List α} {r : List β}, All2 R l r → All2 S l r
  | [], [], _ => trivial
  | _ :: _, _ :: _, h => ⟨f _ _ h.1, h.2.mono f⟩
  | [], _ :: _, h => h.elim
  | _ :: _, [], h => h.elim
theorem All2.append {α β : Type} {R : α → β → Prop} : ∀ {l l' : List α} {r r' : List β}, All2 R l r → All2 R l' r' → All2 R (l ++ l') (r ++ r')
  | [], _, [], _, _, h => h
  | _ :: _, _, _ :: _, _, h, k => ⟨h.1, h.2.append k⟩
  | [], _, _ :: _, _, h, _ => h.elim
  | _ :: _, _, [], _, h, _ => h.elim
theorem All2.get {α β : Type} {R : α → β → Prop} : ∀ {l : List α} {r : List β} {i : Nat} {a : α}, All2 R l r → l[i]? = some a → ∃ b, r[i]? = some b ∧ R a b
  | [], [], _, _, _, h => by simp at h
  | _ :: _, b :: _, 0, _, h, e => ⟨b, rfl, by simp at e; exact e ▸ h.1⟩
  | _ :: _, _ :: _, i + 1, _, h, e => by simpa using h.2.get (by simpa using e)
  | [], _ :: _, _, _, h, _ => h.elim
  | _ :: _, [], _, _, h, _ => h.elim
theorem All2.take {α β : Type} {R : α → β → Prop} : ∀ {l : List α} {r : List β} (n : Nat), All2 R l r → All2 R (l.take n) (r.take n)
  | _, _, 0, _ => by simp [All2]
  | [], [], n + 1, h => by simpa using h
  | _ :: _, _ :: _, n + 1, h => ⟨h.1, h.2.take n⟩
  | [], _ :: _, _, h => h.elim
  | _ :: _, [], _, h => h.elim
theorem All2.drop {α β : Type} {R : α → β → Prop} : ∀ {l : List α} {r : List β} (n : Nat), All2 R l r → All2 R (l.drop n) (r.drop n)
  | _, _, 0, h => by simpa using h
  | [], [], n + 1, h => by simpa using h
  | _ :: _, _ :: _, n + 1, h => h.2.drop n
  | [], _ :: _, _, h => h.elim
  | _ :: _, [], _, h => h.elim
theorem All2.rep {α β : Type} {R : α → β → Prop} {a : α} {b : β} (h : R a b) : ∀ n, All2 R (List.replicate n a) (List.replicate n b)
  | 0 => trivial
  | n + 1 => ⟨h, All2.rep h n⟩

inductive Pt where
  | a (x : At)
  | t (l : List At)
def Pt.Is (h : Heap) (p : Pt) (v : Value) : Prop := match p with
  | .a x => x.Is v
  | .t l => ∃ a vs, v = .ref a ∧ IsTup h a vs.toArray ∧ All2 At.Is l vs
abbrev pI (i : Int) : Pt := .a (.int i)
abbrev pS (x : Str) : Pt := .a (.str x)
abbrev pB (b : Bool) : Pt := .a (.bool b)

def Lst (h : Heap) (a : Addr) (ps : List Pt) : Prop := ∃ vs : List Value, h.PlainList a vs.toArray ∧ All2 (Pt.Is h) ps vs

inductive Vl where
  | p (p : Pt)
  | l (ps : List Pt)
def Vl.Is (h : Heap) (x : Vl) (v : Value) : Prop := match x with
  | .p q => q.Is h v
  | .l ps => ∃ a, v = .ref a ∧ Lst h a ps
abbrev vI (i : Int) : Vl := .p (.a (.int i))
abbrev vS (x : Str) : Vl := .p (.a (.str x))
abbrev vB (b : Bool) : Vl := .p (.a (.bool b))

inductive Ct where
  | p (p : Pt)
  | l (a : Addr) (ps : List Pt)
def Ct.Is (h : Heap) (x : Ct) (v : Value) : Prop := match x with
  | .p q => q.Is h v
  | .l a ps => v = .ref a ∧ Lst h a ps
def Ct.vl : Ct → Vl
  | .p q => .p q
  | .l _ ps => .l ps
abbrev cI (i : Int) : Ct := .p (.a (.int i))
abbrev cS (x : Str) : Ct := .p (.a (.str x))
abbrev cB (b : Bool) : Ct := .p (.a (.bool b))

/-- tuples and lists of h stand in h' -/
abbrev KeepH (h h' : Heap) : Prop := ∀ b o, h.get? b = some o → h'.get? b = some o
/-- all but the object at a -/
abbrev KeepBut (a : Addr) (h h' : Heap) : Prop := ∀ b o, b ≠ a → h.get? b = some o → h'.get? b = some o

/-- no tuple lies at a -/
def NoTup (oa : Obj) : Prop := oa.cls ≠ .type "tuple" ∨ ∀ vs n, oa.data ≠ .seq vs n
theorem Pt.Is.but {h h' : Heap} {a : Addr} {oa : Obj} {p : Pt} {v : Value} (x : p.Is h v) (ha : h.get? a = some oa) (hc : NoTup oa) (k : KeepBut a h h') : p.Is h' v := by
  cases p with
  | a x => exact x
  | t l =>
    obtain ⟨b, vs, e, ⟨o, ho, hcl, n, r⟩, q⟩ := x
    refine ⟨b, vs, e, ⟨o, k b o ?_ ho, hcl, n, r⟩, q⟩
    rintro rfl
    rw [ha] at ho; cases ho; exact hc.elim (fun h => h hcl) fun h => h _ _ r
theorem Pt.Is.keep {h h' : Heap} {p : Pt} {v : Value} (x : p.Is h v) (k : KeepH h h') : p.Is h' v := by
  cases p with
  | a x => exact x
  | t l =>
    obtain ⟨b, vs, e, ⟨o, ho, r⟩, q⟩ := x
    exact ⟨b, vs, e, ⟨o, k b o ho, r⟩, q⟩
theorem Lst.keep {h h' : Heap} {a : Addr} {ps : List Pt} (x : Lst h a ps) (k : KeepH h h') : Lst h' a ps := by
  obtain ⟨vs, ⟨n, e⟩, q⟩ := x
  exact ⟨vs, ⟨n, k _ _ e⟩, q.mono fun _ _ y => y.keep k⟩
theorem Lst.but {h h' : Heap} {a b : Addr} {oa : Obj} {ps : List Pt} (x : Lst h b ps) (ha : h.get? a = some oa) (hc : NoTup oa) (k : KeepBut a h h') (hne : b ≠ a) : Lst h' b ps := by
  obtain ⟨vs, ⟨n, e⟩, q⟩ := x
  exact ⟨vs, ⟨n, k _ _ hne e⟩, q.mono fun _ _ y => y.but ha hc k⟩
theorem Vl.Is.keep {h h' : Heap} {x : Vl} {v : Value} (y : x.Is h v) (k : KeepH h h') : x.Is h' v := by
  cases x with
  | p q => exact Pt.Is.keep (p := q) y k
  | l ps => obtain ⟨a, e, z⟩ := y; exact ⟨a, e, z.keep k⟩
theorem Ct.Is.keep {h h' : Heap} {x : Ct} {v : Value} (y : x.Is h v) (k : KeepH h h') : x.Is h' v := by
  cases x with
  | p q => exact Pt.Is.keep (p := q) y k
  | l a ps => exact ⟨y.1, y.2.keep k⟩
theorem Ct.Is.vl {h : Heap} {x : Ct} {v : Value} (y : x.Is h v) : x.vl.Is h v := by
  cases x with
  | p q => exact y
  | l a ps => exact ⟨a, y.1, y.2⟩
/-- an object that is neither list nor tuple changes: contents stand -/
theorem Ct.Is.other {h h' : Heap} {a : Addr} {oa : Obj} {x : Ct} {v : Value} (y : x.Is h v) (ha : h.get? a = some oa) (hl : ∀ vs n, oa.data ≠ .seq vs n) (k : KeepBut a h h') : x.Is h' v := by
  cases x with
  | p q => exact Pt.Is.but (p := q) y ha (.inr hl) k
  | l b ps =>
    refine ⟨y.1, y.2.but ha (.inr hl) k ?_⟩
    rintro rfl
    obtain ⟨vs, ⟨n, e⟩, _⟩ := y.2
    rw [ha] at e; cases e; exact hl _ _ rfl

/-! ## states -/
/-- only the heap has grown, and fresh signs were taken -/
structure Ext (s s' : Shared) : Prop where
  keep : KeepH s.heap s'.heap
  rest : s' = { s with heap := s'.heap, toks := s'.toks }
theorem Ext.rfl' {s : Shared} : Ext s s := ⟨fun _ _ e => e, rfl⟩
theorem Ext.trans {s s' s'' : Shared} (x : Ext s s') (y : Ext s' s'') : Ext s s'' := ⟨fun b o e => y.keep b o (x.keep b o e), by rw [y.rest, x.rest]⟩
theorem Ext.toks {s : Shared} {n : Nat} : Ext s { s with toks := n } := ⟨fun _ _ e => e, rfl⟩
theorem Ext.push {s : Shared} {o : Obj} : Ext s { s with heap := s.heap.push o } := ⟨fun _ _ e => Heap.get?_push_of_some _ e, rfl⟩
theorem Ext.heap {s : Shared} {h : Heap} (k : KeepH s.heap h) : Ext s { s with heap := h } := ⟨k, rfl⟩
theorem Ext.heapToks {s : Shared} {h : Heap} {n : Nat} (k : KeepH s.heap h) : Ext s { s with heap := h, toks := n } := ⟨k, rfl⟩
theorem Ext.keeps {s s' : Shared} (x : Ext s s') : Keeps s s' := ⟨s'.heap, s'.toks, x.rest, x.keep⟩

structure Amb (K : Frag) (h : Heap) : Prop where
  inK : K.In h
  top : ∃ p loose mg mb, TopRead p loose mg mb h
theorem Amb.keep {K : Frag} {h h' : Heap} (x : Amb K h) (k : KeepH h h') : Amb K h' :=
  ⟨x.inK.keeps k, let ⟨p, l, g, b, T⟩ := x.top; ⟨p, l, g, b, T.keeps k⟩⟩

structure Cx where
  prog : Program
  w : World
  K : Frag
  A : Around
  B : Shared
  env : Env
abbrev Cx.M (c : Cx) : Model := model c.prog c.w

/-- the frame: its names' contents -/
structure Frm (env : Env) (hb h : Heap) (σ : List (Str × Ct)) : Prop where
  kind : env.scope.kind = .function
  glob : env.globals = mainGlobals
  blt : env.builtins = builtinsNs
  newL : hb.get? env.locals = none
  loc : ∃ m, h.Ns env.locals m ∧ ∀ x ct, σ.lookup x = some ct → env.kindOf x = some .local → ∃ v, m x = some v ∧ ct.Is h v
  cel : ∀ x c, env.cells.lookup x = some c → ∃ v, h.IsCell c v
  inj : ∀ x y c, env.cells.lookup x = some c → env.cells.lookup y = some c → x = y
  cv : ∀ x ct, σ.lookup x = some ct → env.kindOf x = some .cell ∨ env.kindOf x = some .free → ∃ c v, env.cells.lookup x = some c ∧ h.IsCell c (some v) ∧ ct.Is h v

/-- tuples stand -/
def KeepT (h h' : Heap) : Prop := ∀ a vs, IsTup h a vs → IsTup h' a vs
theorem KeepT.rfl' {h : Heap} : KeepT h h := fun _ _ x => x
theorem KeepT.of {h h' : Heap} (k : KeepH h h') : KeepT h h' := fun _ _ x => x.keeps k
theorem KeepT.trans {h h' h'' : Heap} (x : KeepT h h') (y : KeepT h' h'') : KeepT h h'' := fun a vs z => y a vs (x a vs z)
theorem Pt.Is.keepT {h h' : Heap} {p : Pt} {v : Value} (x : p.Is h v) (k : KeepT h h') : p.Is h' v := by
  cases p with
  | a x => exact x
  | t l => obtain ⟨b, vs, e, z, q⟩ := x; exact ⟨b, vs, e, k _ _ z, q⟩
theorem KeepT.but {h h' : Heap} {a : Addr} {oa : Obj} (ha : h.get? a = some oa) (hc : NoTup oa) (k : KeepBut a h h') : KeepT h h' := fun b vs ⟨o, ho, hcl, n, r⟩ =>
  ⟨o, k b o (by rintro rfl; rw [ha] at ho; cases ho; exact hc.elim (fun h => h hcl) fun h => h _ _ r) ho, hcl, n, r⟩
/-- what must stand beside the names: some objects, and the tuples of a heap -/
structure Gh where
  objs : List (Addr × Obj)
  tup : Heap
/-- data of iterators, lists, tuples -/
def Flat (d : Data) : Prop := (∃ vs, d = .fields vs) ∨ ∃ vs n, d = .seq vs n
structure Inv (c : Cx) (σ : List (Str × Ct)) (γ : Gh) (s : Shared) : Prop where
  amb : Amb c.K c.B.heap
  keep : KeepH c.B.heap s.heap
  rest : s = { c.B with heap := s.heap, toks := s.toks }
  frm : Frm c.env c.B.heap s.heap σ
  gh : ∀ p ∈ γ.objs, s.heap.get? p.1 = some p.2 ∧ Flat p.2.data
  kt : KeepT γ.tup s.heap
theorem Inv.ambH {c : Cx} {σ : List (Str × Ct)} {γ : Gh} {s : Shared} (x : Inv c σ γ s) : Amb c.K s.heap := x.amb.keep x.keep

theorem Heap.IsCell.keep {h h' : Heap} {c : Addr} {v : Option Value} (x : h.IsCell c v) (k : KeepH h h') : h'.IsCell c v := by
  obtain ⟨o, ho, hd⟩ := x; exact ⟨o, k _ _ ho, hd⟩
theorem Frm.keep {env : Env} {hb h h' : Heap} {σ : List (Str × Ct)} (x : Frm env hb h σ) (k : KeepH h h') : Frm env hb h' σ := by
  refine ⟨x.kind, x.glob, x.blt, x.newL, ?_, fun n c e => ?_, x.inj, fun n ct e hk => ?_⟩
  · obtain ⟨m, hn, hm⟩ := x.loc
    exact ⟨m, hn.keeps k, fun n ct e hk => let ⟨v, hv, y⟩ := hm n ct e hk; ⟨v, hv, y.keep k⟩⟩
  · obtain ⟨v, r⟩ := x.cel n c e; exact ⟨v, Heap.IsCell.keep r k⟩
  · obtain ⟨c, v, e1, e2, e3⟩ := x.cv n ct e hk; exact ⟨c, v, e1, Heap.IsCell.keep e2 k, e3.keep k⟩
theorem Inv.ext {c : Cx} {σ : List (Str × Ct)} {γ : Gh} {s s' : Shared} (x : Inv c σ γ s) (y : Ext s s') : Inv c σ γ s' :=
  ⟨x.amb, fun b o e => y.keep b o (x.keep b o e), by rw [y.rest, x.rest], x.frm.keep y.keep, fun p hp => ⟨y.keep _ _ (x.gh p hp).1, (x.gh p hp).2⟩, x.kt.trans (.of y.keep)⟩
theorem Inv.toExt {c : Cx} {σ : List (Str × Ct)} {γ : Gh} {s : Shared} (x : Inv c σ γ s) : Ext c.B s := ⟨x.keep, x.rest⟩

/-! ## expressions -/
def Exp (c : Cx) (σ : List (Str × Ct)) (γ : Gh) (e : PySem.Expr) (x : Vl) : Prop :=
  ∀ s, Inv c σ γ s → wpAny c.M c.A (eval e c.env) (fun v s' => Ext s s' ∧ x.Is s'.heap v) (fun _ _ => False) s
/-- a test -/
def Tst (c : Cx) (σ : List (Str × Ct)) (γ : Gh) (e : PySem.Expr) (b : Bool) : Prop :=
  ∀ s, Inv c σ γ s → wpAny c.M c.A (isTrue e c.env (eval e c.env)) (fun r s' => Ext s s' ∧ r = b) (fun _ _ => False) s

section
variable {c : Cx} {σ : List (Str × Ct)} {γ : Gh}
abbrev no : Value → Shared → Prop := fun _ _ => False

theorem mono0 {α : Type} {M : Model} {A : Around} {t : Sem α} {Q Q' : α → Shared → Prop} {E : Value → Shared → Prop} {s : Shared} (h : wpAny M A t Q no s) (hQ : ∀ a s', Q a s' → Q' a s') : wpAny M A t Q' E s :=
  wpAny_mono h hQ fun _ _ x => x.elim

theorem Exp.var {x : Str} {pos : Pos} {ct : Ct} {v : Vl} (h : σ.lookup x = some ct) (hv : ct.vl = v) (hk : (c.env.kindOf x == some .local || c.env.kindOf x == some .cell || c.env.kindOf x == some .free) = true)
    (hd : (x == ("__debug__" : Str)) = false := by decide) (hcd : (x == ("__classdict__" : Str)) = false := by decide) : Exp c σ γ (.Name x pos) v := by
  intro s I
  subst hv
  have hk' : c.env.kindOf x = some .local ∨ c.env.kindOf x = some .cell ∨ c.env.kindOf x = some .free := by
    simp only [Bool.or_eq_true, beq_iff_eq] at hk
    rcases hk with (h1 | h1) | h1 <;> simp [h1]
  rcases hk' with hk | hk | hk
  · obtain ⟨m, hn, hm⟩ := I.frm.loc
    obtain ⟨v, hv, y⟩ := hm x ct h hk
    exact wpAny_Name (wpAny_loadName_local I.frm.kind hk hn hv ⟨.rfl', y.vl⟩) hd
  · obtain ⟨a, v, e1, e2, e3⟩ := I.frm.cv x ct h (.inl hk)
    exact wpAny_Name (wpAny_loadName_cell I.frm.kind hk e1 e2 ⟨.rfl', e3.vl⟩) hd
  · obtain ⟨a, v, e1, e2, e3⟩ := I.frm.cv x ct h (.inr hk)
    exact wpAny_Name (wpAny_loadName_free I.frm.kind hk e1 e2 ⟨.rfl', e3.vl⟩ hcd) hd

/-- a global name of the text -/
theorem nameK {x : Str} {pos : Pos} {v : Value} {Q : Value → Shared → Prop} {E : Value → Shared → Prop} {s : Shared} (I : Inv c σ γ s) (e : nsIn c.K mainGlobals x = some (some v))
    (hk : c.env.kindOf x = some .globalImplicit) (h : Q v s) (hd : (x == ("__debug__" : Str)) = false := by decide) : wpAny c.M c.A (eval (.Name x pos) c.env) Q E s := by
  obtain ⟨p, l, mg, mb, T⟩ := I.ambH.top
  exact Name_function_global I.frm.kind hk (loadGlobal_global (by rw [I.frm.glob]; exact T.g) (mg_of I.ambH.inK T.g e) h) hd
theorem nameB {x : Str} {pos : Pos} {v : Value} {Q : Value → Shared → Prop} {E : Value → Shared → Prop} {s : Shared} (I : Inv c σ γ s) (e : nsIn c.K mainGlobals x = some none)
    (hv : bootBuiltins x = some v) (hk : c.env.kindOf x = some .globalImplicit) (h : Q v s) (hn : x ≠ "__name__" := by decide) (hd : (x == ("__debug__" : Str)) = false := by decide) : wpAny c.M c.A (eval (.Name x pos) c.env) Q E s := by
  obtain ⟨p, l, mg, mb, T⟩ := I.ambH.top
  exact Name_function_global I.frm.kind hk (loadGlobal_builtin (by rw [I.frm.glob]; exact T.g) (mg_none_of I.ambH.inK T.g e) (by rw [I.frm.blt]; exact T.b) ((T.builtins x hn).trans hv) h) hd
theorem Exp.globI {x : Str} {pos : Pos} {i : Int} {t : Tok} (e : nsIn c.K mainGlobals x = some (some (.int i t))) (hk : c.env.kindOf x = some .globalImplicit)
    (hd : (x == ("__debug__" : Str)) = false := by decide) : Exp c σ γ (.Name x pos) (vI i) := fun s I => nameK I e hk ⟨.rfl', t, rfl⟩ hd

theorem Exp.cInt {i : Int} {k : Nat} {pos : Pos} : Exp c σ γ (.Constant (.int i) k pos) (vI i) := fun s I => wpAny_Constant_int ⟨.toks, _, rfl⟩
theorem Exp.cStr {x : Str} {k : Nat} {pos : Pos} : Exp c σ γ (.Constant (.str x) k pos) (vS x) := fun s I => Constant_str ⟨.toks, _, rfl⟩
theorem Exp.cBool {b : Bool} {k : Nat} {pos : Pos} : Exp c σ γ (.Constant (.bool b) k pos) (vB b) := fun s I => wpAny_Constant_bool ⟨.rfl', rfl⟩

/-- two operands -/
theorem Exp.bin {l r : PySem.Expr} {op : Operator} {pos : Pos} {x y z : Vl} (h1 : Exp c σ γ l x) (h2 : Exp c σ γ r y)
    (h : ∀ s a b, Inv c σ γ s → x.Is s.heap a → y.Is s.heap b → wpAny c.M c.A (binaryOp op a b) (fun v s' => Ext s s' ∧ z.Is s'.heap v) no s) : Exp c σ γ (.BinOp l op r pos) z := fun s I =>
  wpAny_BinOp (wpAny_mono (h1 s I) (fun a s₁ ⟨e1, q1⟩ => wpAny_mono (h2 s₁ (I.ext e1)) (fun b s₂ ⟨e2, q2⟩ =>
    wpAny_mono (h s₂ a b ((I.ext e1).ext e2) (q1.keep e2.keep) q2) (fun v s' ⟨e3, q3⟩ => ⟨(e1.trans e2).trans e3, q3⟩) fun _ _ x => x) fun _ _ x => x) fun _ _ x => x)
theorem Exp.cmp {l r : PySem.Expr} {op : CmpOp} {pos : Pos} {x y z : Vl} (h1 : Exp c σ γ l x) (h2 : Exp c σ γ r y)
    (h : ∀ s a b, Inv c σ γ s → x.Is s.heap a → y.Is s.heap b → wpAny c.M c.A (compareOp op a b) (fun v s' => Ext s s' ∧ z.Is s'.heap v) no s)
    (hm : behindInMarks op r = false := by with_unfolding_all rfl) : Exp c σ γ (.Compare l [op] [r] pos) z := fun s I =>
  wpAny_Compare1 (wpAny_mono (h1 s I) (fun a s₁ ⟨e1, q1⟩ => wpAny_mono (h2 s₁ (I.ext e1)) (fun b s₂ ⟨e2, q2⟩ =>
    wpAny_mono (h s₂ a b ((I.ext e1).ext e2) (q1.keep e2.keep) q2) (fun v s' ⟨e3, q3⟩ => ⟨(e1.trans e2).trans e3, q3⟩) fun _ _ x => x) fun _ _ x => x) fun _ _ x => x) hm
/-- what a comparison of two contents gives -/
def Cmp (c : Cx) (σ : List (Str × Ct)) (γ : Gh) (op : CmpOp) (x y : Vl) (b : Bool) : Prop :=
  ∀ s a b', Inv c σ γ s → x.Is s.heap a → y.Is s.heap b' → wpAny c.M c.A (compareOp op a b') (fun v s' => Ext s s' ∧ v = .bool b) no s
theorem Exp.cmpB {l r : PySem.Expr} {op : CmpOp} {pos : Pos} {x y : Vl} {b : Bool} (h1 : Exp c σ γ l x) (h2 : Exp c σ γ r y) (h : Cmp c σ γ op x y b)
    (hm : behindInMarks op r = false := by with_unfolding_all rfl) : Exp c σ γ (.Compare l [op] [r] pos) (vB b) := Exp.cmp h1 h2 (fun s a b' I q1 q2 => h s a b' I q1 q2) hm
theorem Tst.cmp {l r : PySem.Expr} {op : CmpOp} {pos : Pos} {x y : Vl} {b : Bool} (h1 : Exp c σ γ l x) (h2 : Exp c σ γ r y) (h : Cmp c σ γ op x y b)
    (hm : behindInMarks op r = false := by with_unfolding_all rfl) : Tst c σ γ (.Compare l [op] [r] pos) b := fun s I =>
  wpAny_isTrue_Compare1 (wpAny_mono (h1 s I) (fun a s₁ ⟨e1, q1⟩ => wpAny_mono (h2 s₁ (I.ext e1)) (fun b' s₂ ⟨e2, q2⟩ =>
    wpAny_mono (h s₂ a b' ((I.ext e1).ext e2) (q1.keep e2.keep) q2) (fun v s' ⟨e3, q3⟩ => by subst q3; exact wpAny_truthy_bool ⟨(e1.trans e2).trans e3, rfl⟩) fun _ _ x => x) fun _ _ x => x) fun _ _ x => x) hm
theorem Tst.not {e : PySem.Expr} {pos : Pos} {b : Bool} (h : Tst c σ γ e b) : Tst c σ γ (.UnaryOp .Not e pos) (!b) := fun s I =>
  wpAny_isTrue_Not (wpAny_mono (h s I) (fun r s' ⟨e1, q⟩ => ⟨e1, by rw [q]⟩) fun _ _ x => x)
end
end Mine

namespace Mine
section
variable {c : Cx} {σ : List (Str × Ct)} {γ : Gh}

theorem Exp.add {l r : PySem.Expr} {pos : Pos} {i j : Int} (h1 : Exp c σ γ l (vI i)) (h2 : Exp c σ γ r (vI j)) : Exp c σ γ (.BinOp l .Add r pos) (vI (i + j)) :=
  .bin h1 h2 fun s a b I q1 q2 => by obtain ⟨t, rfl⟩ := q1; obtain ⟨u, rfl⟩ := q2; exact add_int ⟨.toks, _, rfl⟩
theorem Exp.sub {l r : PySem.Expr} {pos : Pos} {i j : Int} (h1 : Exp c σ γ l (vI i)) (h2 : Exp c σ γ r (vI j)) : Exp c σ γ (.BinOp l .Sub r pos) (vI (i - j)) :=
  .bin h1 h2 fun s a b I q1 q2 => by obtain ⟨t, rfl⟩ := q1; obtain ⟨u, rfl⟩ := q2; exact sub_int ⟨.toks, _, rfl⟩
theorem Exp.mul {l r : PySem.Expr} {pos : Pos} {i j : Int} (h1 : Exp c σ γ l (vI i)) (h2 : Exp c σ γ r (vI j)) (hm : IntMulOk i j) : Exp c σ γ (.BinOp l .Mult r pos) (vI (i * j)) :=
  .bin h1 h2 fun s a b I q1 q2 => by obtain ⟨t, rfl⟩ := q1; obtain ⟨u, rfl⟩ := q2; exact mul_int ⟨.toks, _, rfl⟩ hm
theorem Exp.mod {l r : PySem.Expr} {pos : Pos} {i j : Int} (h1 : Exp c σ γ l (vI i)) (h2 : Exp c σ γ r (vI j)) (hj : j ≠ 0) : Exp c σ γ (.BinOp l .Mod r pos) (vI (i.fmod j)) :=
  .bin h1 h2 fun s a b I q1 q2 => by obtain ⟨t, rfl⟩ := q1; obtain ⟨u, rfl⟩ := q2; exact mod_int' hj ⟨.toks, _, rfl⟩
theorem Exp.fdiv {l r : PySem.Expr} {pos : Pos} {i j : Int} (h1 : Exp c σ γ l (vI i)) (h2 : Exp c σ γ r (vI j)) (hj : j ≠ 0) (hs : j.natAbs < 1073741824) : Exp c σ γ (.BinOp l .FloorDiv r pos) (vI (i.fdiv j)) :=
  .bin h1 h2 fun s a b I q1 q2 => by obtain ⟨t, rfl⟩ := q1; obtain ⟨u, rfl⟩ := q2; exact floordiv_int hj ⟨.toks, _, rfl⟩ (.inl (PyProof.noPylong_small hs))
theorem Exp.addS {l r : PySem.Expr} {pos : Pos} {x y : Str} (h1 : Exp c σ γ l (vS x)) (h2 : Exp c σ γ r (vS y)) (hs : x.length + y.length ≤ sizeLine) : Exp c σ γ (.BinOp l .Add r pos) (vS (x ++ y)) :=
  .bin h1 h2 fun s a b I q1 q2 => by obtain ⟨t, rfl⟩ := q1; obtain ⟨u, rfl⟩ := q2; exact add_str (fun t' tk => ⟨.toks, _, rfl⟩) hs
theorem Exp.neg {e : PySem.Expr} {pos : Pos} {i : Int} (h : Exp c σ γ e (vI i)) : Exp c σ γ (.UnaryOp .USub e pos) (vI (-i)) := fun s I =>
  wpAny_UnaryOp (wpAny_mono (h s I) (fun v s' ⟨e1, t, q⟩ => by subst q; exact neg_int ⟨e1.trans .toks, _, rfl⟩) fun _ _ x => x)

theorem Lst.new {h : Heap} {vs : List Value} {ps : List Pt} {n : Nat} (q : All2 (Pt.Is h) ps vs) : Lst (h.push { cls := .type "list", data := .seq vs.toArray n }) h.objs.size ps :=
  ⟨vs, ⟨n, Heap.get?_push_size _ rfl⟩, q.mono fun _ _ y => y.keep fun _ _ e => Heap.get?_push_of_some _ e⟩

theorem addL_raw {ps qs : List Pt} {a b : Addr} {s : Shared} {E : Value → Shared → Prop} (x : Lst s.heap a ps) (y : Lst s.heap b qs) (hs : ps.length + qs.length ≤ sizeLine) {Q : Value → Shared → Prop}
    (h : ∀ a' s', Ext s s' → s.heap.get? a' = none → Lst s'.heap a' (ps ++ qs) → Q (.ref a') s') : wpAny c.M c.A (binaryOp .Add (.ref a) (.ref b)) Q E s := by
  obtain ⟨vs, ⟨n, e1⟩, q1⟩ := x
  obtain ⟨ws, ⟨m, e2⟩, q2⟩ := y
  have hv := q1.length
  have hw := q2.length
  refine concat_meets ⟨_, e1, rfl⟩ ⟨_, e2, rfl⟩ noFill_list_add seq_list_add PySem.F.slot_list_add PySem.F.entry_list_add (PySem.F.args_list_add_2 _ _) (list_addW a b vs.toArray ws.toArray n m none none #[] #[] (by simp only [List.size_toArray]; omega)) ⟨e1, e2, ?_⟩
  have e : vs.toArray ++ ws.toArray = (vs ++ ws).toArray := by simp
  rw [e]
  exact h _ _ .push (Heap.get?_none_of_le (Nat.le_refl _)) (Lst.new (q1.append q2))
theorem Exp.addL {l r : PySem.Expr} {pos : Pos} {x y : List Pt} (h1 : Exp c σ γ l (.l x)) (h2 : Exp c σ γ r (.l y)) (hs : x.length + y.length ≤ sizeLine) : Exp c σ γ (.BinOp l .Add r pos) (.l (x ++ y)) :=
  .bin h1 h2 fun s a b I q1 q2 => by
    obtain ⟨a, rfl, q1⟩ := q1; obtain ⟨b, rfl, q2⟩ := q2
    exact addL_raw q1 q2 hs fun a' s' e1 _ z => ⟨e1, _, rfl, z⟩

theorem rep_one (v : Value) : ∀ (n : Nat) (acc : Array Value), List.foldl (fun x1 x2 => x1 ++ x2) acc (List.replicate n #[v]) = (acc.toList ++ List.replicate n v).toArray
  | 0, acc => by simp
  | n + 1, acc => by
    rw [List.replicate_succ, List.foldl_cons, rep_one v n]
    simp [List.replicate_succ]
/-- [x] * n -/
theorem mulL_raw {p : Pt} {a : Addr} {s : Shared} {E : Value → Shared → Prop} {i : Int} {u : Tok} (x : Lst s.heap a [p]) (hs : i.toNat ≤ 2 ^ 20) {Q : Value → Shared → Prop} (hlo : -(2 ^ 63 : Int) ≤ i) 
    (h : ∀ a' s', Ext s s' → s.heap.get? a' = none → Lst s'.heap a' (List.replicate i.toNat p) → Q (.ref a') s') : wpAny c.M c.A (binaryOp .Mult (.ref a) (.int i u)) Q E s := by
  obtain ⟨vs, ⟨n, e1⟩, q1⟩ := x
  have hl := q1.length
  obtain ⟨v, rfl⟩ : ∃ v, vs = [v] := by
    match vs, hl with
    | [v], _ => exact ⟨v, rfl⟩
  have hhi : i < 2 ^ 63 := by omega
  refine wpAny_binaryOp_repeat_ref (T := "list") (U := "int") (by decide) ⟨_, e1, rfl⟩ (fun s' => typeIs_int s' i u) noFill_list_mul F.fills_int_mul F.slot_int_rmul repeat_list F.slot_int_index.lookup
    (call_meets F.slot_int_rmul (typeIs_int s i u) F.entry_int_rmul (F.args_int_rmul_2 _ _) (int___rmul___int_list i u a [v].toArray n)
      ⟨e1, rfl, ⟨_, e1, rfl⟩, call_meets F.slot_list_mul ⟨_, e1, rfl⟩ F.entry_list_mul (F.args_list_mul_2 _ _)
        (AutoListH.list___mul___list_int_3 a [v].toArray n i u (by simp [Builtin.List.listFitsIndex]; omega) (by simp; omega) (by simp [Builtin.List.listTooLong, sizeLine]; omega))
        ⟨e1, ?_⟩⟩)
  have e : List.foldl (fun x1 x2 => x1 ++ x2) #[] (List.replicate (if [v].toArray.isEmpty = true then 0 else i.toNat) [v].toArray) = (List.replicate i.toNat v).toArray := by
    have := rep_one v i.toNat #[]
    simpa using this
  rw [e]
  exact h _ _ .push (Heap.get?_none_of_le (Nat.le_refl _)) (Lst.new (All2.rep q1.1 _))
theorem Exp.mulL {l r : PySem.Expr} {pos : Pos} {p : Pt} {i : Int} (h1 : Exp c σ γ l (.l [p])) (h2 : Exp c σ γ r (vI i)) (hs : i.toNat ≤ 2 ^ 20) (hlo : -(2 ^ 63 : Int) ≤ i) : Exp c σ γ (.BinOp l .Mult r pos) (.l (List.replicate i.toNat p)) :=
  .bin h1 h2 fun s a b I q1 q2 => by
    obtain ⟨a, rfl, q1⟩ := q1; obtain ⟨t, rfl⟩ := q2
    exact mulL_raw q1 hs hlo fun a' s' e1 _ z => ⟨e1, _, rfl, z⟩

/-! comparisons -/
theorem Cmp.lt {i j : Int} : Cmp c σ γ .Lt (vI i) (vI j) (decide (i < j)) := fun s a b I ⟨t, q1⟩ ⟨u, q2⟩ => by subst q1 q2; exact lt_int ⟨.rfl', rfl⟩
theorem Cmp.gt {i j : Int} : Cmp c σ γ .Gt (vI i) (vI j) (decide (j < i)) := fun s a b I ⟨t, q1⟩ ⟨u, q2⟩ => by subst q1 q2; exact gt_int ⟨.rfl', rfl⟩
theorem Cmp.ge {i j : Int} : Cmp c σ γ .GtE (vI i) (vI j) (decide (j ≤ i)) := fun s a b I ⟨t, q1⟩ ⟨u, q2⟩ => by subst q1 q2; exact ge_int ⟨.rfl', rfl⟩
theorem Cmp.eq {i j : Int} : Cmp c σ γ .Eq (vI i) (vI j) (i == j) := fun s a b I ⟨t, q1⟩ ⟨u, q2⟩ => by subst q1 q2; exact eq_int ⟨.rfl', rfl⟩
theorem Cmp.ne {i j : Int} : Cmp c σ γ .NotEq (vI i) (vI j) (i != j) := fun s a b I ⟨t, q1⟩ ⟨u, q2⟩ => by subst q1 q2; exact ne_int ⟨.rfl', rfl⟩
theorem Cmp.neS {x y : Str} : Cmp c σ γ .NotEq (vS x) (vS y) (x != y) := fun s a b I ⟨t, q1⟩ ⟨u, q2⟩ => by subst q1 q2; exact ne_str ⟨.rfl', rfl⟩
theorem Cmp.eqB {x y : Bool} : Cmp c σ γ .Eq (vB x) (vB y) (x == y) := fun s a b I q1 q2 => by cases q1; cases q2; exact eq_bool ⟨.rfl', rfl⟩
theorem Cmp.inS {x y : Str} : Cmp c σ γ .In (vS y) (vS x) (!(Builtin.Str.occurrences x y 0 x.length 1).isEmpty) := fun s a b I ⟨t, q1⟩ ⟨u, q2⟩ => by subst q1 q2; exact in_str ⟨.rfl', rfl⟩
end
end Mine

namespace Mine
section
variable {c : Cx} {σ : List (Str × Ct)} {γ : Gh}

/-! subscripts -/
theorem sub_raw {M : Model} {A : Around} {env : Env} {value slice : PySem.Expr} {pos : Pos} {Q : Value → Shared → Prop} {E : Value → Shared → Prop} {s : Shared}
    (h : wpAny M A (eval value env) (fun o s₁ => wpAny M A (eval slice env) (fun i s₂ => wpAny M A (subscriptTail value slice o i) Q E s₂) E s₁) E s) :
    wpAny M A (eval (.Subscript value slice pos) env) Q E s := by
  rw [eval_Subscript]
  exact wpAny_bind (wpAny_mono h (fun o s₁ h₁ => wpAny_bind (wpAny_holding (wpAny_mono h₁ (fun i s₂ h₂ => wpAny_bind (wpAny_standAt h₂)) fun _ _ x => x))) fun _ _ x => x)
theorem Exp.subs {value slice : PySem.Expr} {pos : Pos} {x y z : Vl} (h1 : Exp c σ γ value x) (h2 : Exp c σ γ slice y)
    (h : ∀ s o i, Inv c σ γ s → x.Is s.heap o → y.Is s.heap i → wpAny c.M c.A (subscriptTail value slice o i) (fun v s' => Ext s s' ∧ z.Is s'.heap v) no s) : Exp c σ γ (.Subscript value slice pos) z := fun s I =>
  sub_raw (wpAny_mono (h1 s I) (fun a s₁ ⟨e1, q1⟩ => wpAny_mono (h2 s₁ (I.ext e1)) (fun b s₂ ⟨e2, q2⟩ =>
    wpAny_mono (h s₂ a b ((I.ext e1).ext e2) (q1.keep e2.keep) q2) (fun v s' ⟨e3, q3⟩ => ⟨(e1.trans e2).trans e3, q3⟩) fun _ _ x => x) fun _ _ x => x) fun _ _ x => x)

abbrev SubOk (slice : PySem.Expr) : Prop := ∀ o i, subscripted slice false o i = operate [o, i] (getItem o i)
/-- the place that an index means -/
def ix (k : Int) (n : Nat) : Nat := if k < 0 then (k + n).toNat else k.toNat

theorem Exp.item {value slice : PySem.Expr} {pos : Pos} {ps : List Pt} {p : Pt} {k : Int} (h1 : Exp c σ γ value (.l ps)) (h2 : Exp c σ γ slice (vI k))
    (hp : ps[ix k ps.length]? = some p) (hk : -(ps.length : Int) ≤ k) (hk2 : -(2 ^ 62) ≤ k ∧ k < 2 ^ 62) (hs : SubOk slice := by intro _ _; with_unfolding_all rfl) : Exp c σ γ (.Subscript value slice pos) (.p p) :=
  .subs h1 h2 fun s o i I q1 q2 => by
    obtain ⟨a, rfl, vs, ⟨n, e⟩, q⟩ := q1
    obtain ⟨t, rfl⟩ := q2
    have hl := q.length
    obtain ⟨v, hv, hq⟩ := q.get hp
    have L : s.heap.IsList a vs.toArray := ⟨_, e, rfl, n, rfl⟩
    unfold ix at hv
    by_cases h0 : k < 0
    · rw [if_pos h0] at hv
      exact tail_any L.typeIs slot_list_getitem.lookup (wpAny_getItem_list_neg L h0 (by simp only [List.size_toArray]; omega) (by omega) (by simp only [List.size_toArray, List.getElem?_toArray, ← hl]; exact hv) ⟨.rfl', hq⟩) (hs _ _)
    · rw [if_neg h0] at hv
      exact tail_any L.typeIs slot_list_getitem.lookup (wpAny_getItem_list L (by omega) (by omega) (by simpa using hv) ⟨.rfl', hq⟩) (hs _ _)
theorem Exp.itemT {value slice : PySem.Expr} {pos : Pos} {l : List At} {x : At} {k : Int} (h1 : Exp c σ γ value (.p (.t l))) (h2 : Exp c σ γ slice (vI k))
    (hp : l[k.toNat]? = some x) (h0 : 0 ≤ k) (hk : k < 2 ^ 62) (hs : SubOk slice := by intro _ _; with_unfolding_all rfl) : Exp c σ γ (.Subscript value slice pos) (.p (.a x)) :=
  .subs h1 h2 fun s o i I q1 q2 => by
    obtain ⟨a, vs, rfl, ht, q⟩ := q1
    obtain ⟨t, rfl⟩ := q2
    have hl := q.length
    obtain ⟨v, hv, hq⟩ := q.get hp
    have hlt : k.toNat < vs.length := (List.getElem?_eq_some_iff.mp hv).1
    exact tail_any ht.typeIs slot_tuple_getitem.lookup (getItem_tuple ht (by omega) (by omega) (j := k.toNat) (by simp [seqIndex?, List.size_toArray]; omega) (by simpa using hv) ⟨.rfl', hq⟩) (hs _ _)
theorem Exp.itemS {value slice : PySem.Expr} {pos : Pos} {x : Str} {k : Int} {d : Nat} (h1 : Exp c σ γ value (vS x)) (h2 : Exp c σ γ slice (vI k))
    (hp : x.cps[k.toNat]? = some d) (h0 : 0 ≤ k) (hk : k < 2 ^ 62) (hs : SubOk slice := by intro _ _; with_unfolding_all rfl) : Exp c σ γ (.Subscript value slice pos) (vS ⟨#[d]⟩) :=
  .subs h1 h2 fun s o i I q1 q2 => by
    obtain ⟨t, rfl⟩ := q1
    obtain ⟨u, rfl⟩ := q2
    have hlt : k.toNat < x.cps.size := (Array.getElem?_eq_some_iff.mp hp).1
    have hj : seqIndex? k x.length = some k.toNat := by
      have : x.length = x.cps.size := rfl
      simp [seqIndex?, this]; omega
    exact tail_any (typeIs_str s x t) slot_str_getitem.lookup (getItem_str (by simp; omega) (by rw [hj]; exact hp) ⟨.toks, _, rfl⟩) (hs _ _)

/-- a part of a slice -/
def Prt (c : Cx) (σ : List (Str × Ct)) (γ : Gh) (e : Option PySem.Expr) (i : Option Int) : Prop :=
  ∀ s, Inv c σ γ s → wpAny c.M c.A (evalPart e c.env) (fun v s' => Ext s s' ∧ IsPart v i) no s
theorem Prt.none : Prt c σ γ none none := fun s I => wpAny_evalPart_none ⟨.rfl', .none⟩
theorem Prt.some {e : PySem.Expr} {i : Int} (h : Exp c σ γ e (vI i)) : Prt c σ γ (some e) (some i) := fun s I =>
  wpAny_evalPart_some (wpAny_mono (h s I) (fun v s' ⟨e1, t, q⟩ => by subst q; exact ⟨e1, .int ..⟩) fun _ _ x => x)

/-- x[lo:hi:st] of a list -/
theorem sliceL_raw {value : PySem.Expr} {lo hi st : Option PySem.Expr} {p pos : Pos} {ps qs : List Pt} {i j k : Option Int} (h1 : Exp c σ γ value (.l ps)) (h2 : Prt c σ γ lo i) (h3 : Prt c σ γ hi j) (h4 : Prt c σ γ st k)
    (hk : k ≠ Option.some 0) (hsz : ps.length ≤ sizeLine)
    (hq : ∀ (h : Heap) (vs : List Value), All2 (Pt.Is h) ps vs → ∃ ws : List Value, slicePick vs.toArray i j k = ws.toArray ∧ All2 (Pt.Is h) qs ws)
    (hs : ∀ o i, ∃ ops, subscripted (.Slice lo hi st p) false o i = operate ops (getItem o i)) {s : Shared} (I : Inv c σ γ s) :
    wpAny c.M c.A (eval (.Subscript value (.Slice lo hi st p) pos) c.env) (fun v s' => Ext s s' ∧ ∃ a, v = .ref a ∧ s.heap.get? a = Option.none ∧ Lst s'.heap a qs) no s := by
  refine sub_raw (wpAny_mono (h1 s I) (fun o s₁ ⟨e1, q1⟩ => wpAny_Slice (wpAny_mono (h2 s₁ (I.ext e1)) (fun vl s₂ ⟨e2, q2⟩ => wpAny_mono (h3 s₂ ((I.ext e1).ext e2)) (fun vu s₃ ⟨e3, q3⟩ =>
    wpAny_mono (h4 s₃ (((I.ext e1).ext e2).ext e3)) (fun vst s₄ ⟨e4, q4⟩ => ?_) fun _ _ x => x) fun _ _ x => x) fun _ _ x => x)) fun _ _ x => x)
  have q1 := ((q1.keep e2.keep).keep e3.keep).keep e4.keep
  obtain ⟨a, rfl, vs, ⟨n, e⟩, q⟩ := q1
  have L : s₄.heap.IsList a vs.toArray := ⟨_, e, rfl, n, rfl⟩
  obtain ⟨ops, ho⟩ := hs (.ref a) (.ref s₄.heap.objs.size)
  have eS : Ext s s₄ := ((e1.trans e2).trans e3).trans e4
  refine tail_any (L.push _).typeIs slot_list_getitem.lookup (wpAny_getItem_list_slice (L.push _) (Heap.IsSliceOf.new ..) q2 q3 q4 hk ?_ (by simp only [List.size_toArray, ← q.length]; exact hsz)) ho
  obtain ⟨ws, hw, hq'⟩ := hq _ vs (q.mono fun _ _ y => y.keep (fun _ _ e => Heap.get?_push_of_some { cls := .type "slice", data := .fields #[vl, vu, vst] } e))
  rw [hw]
  refine ⟨(eS.trans .push).trans (.push (s := { s₄ with heap := _ })), _, rfl, ?_, Lst.new hq'⟩
  cases hg : s.heap.get? (s₄.heap.push { cls := .type "slice", data := .fields #[vl, vu, vst] }).objs.size with
  | none => rfl
  | some o =>
    have := Heap.lt_size (eS.keep _ _ hg)
    rw [Heap.size_push] at this; exact absurd (Nat.lt_of_succ_lt this) (Nat.lt_irrefl _)
theorem Exp.fromL {value e : PySem.Expr} {p pos : Pos} {ps : List Pt} {n : Nat} (h1 : Exp c σ γ value (.l ps)) (h2 : Exp c σ γ e (vI n)) (hsz : ps.length ≤ sizeLine) :
    Exp c σ γ (.Subscript value (.Slice (some e) none none p) pos) (.l (ps.drop n)) := fun s I =>
  wpAny_mono (sliceL_raw h1 (Prt.some h2) Prt.none Prt.none (by simp) hsz (qs := ps.drop n) (fun h vs q => ⟨vs.drop n, slicePick_from' _ _, q.drop n⟩) (fun _ _ => ⟨_, by with_unfolding_all rfl⟩) I) (fun v s' ⟨e1, a, q1, _, q2⟩ => ⟨e1, a, q1, q2⟩) fun _ _ x => x
theorem Exp.uptoL {value e : PySem.Expr} {p pos : Pos} {ps : List Pt} {n : Nat} (h1 : Exp c σ γ value (.l ps)) (h2 : Exp c σ γ e (vI n)) (hsz : ps.length ≤ sizeLine) :
    Exp c σ γ (.Subscript value (.Slice none (some e) none p) pos) (.l (ps.take n)) := fun s I =>
  wpAny_mono (sliceL_raw h1 Prt.none (Prt.some h2) Prt.none (by simp) hsz (qs := ps.take n) (fun h vs q => ⟨vs.take n, slicePick_upto' _ _, q.take n⟩) (fun _ _ => ⟨_, by with_unfolding_all rfl⟩) I) (fun v s' ⟨e1, a, q1, _, q2⟩ => ⟨e1, a, q1, q2⟩) fun _ _ x => x

/-- x[i:j] of a text -/
theorem Exp.sliceS {value lo hi : PySem.Expr} {p pos : Pos} {x : Str} {i j : Int} (h1 : Exp c σ γ value (vS x)) (h2 : Exp c σ γ lo (vI i)) (h3 : Exp c σ γ hi (vI j)) (hsz : x.length ≤ sizeLine)
    (ht : ∀ t r, letTemporaryGo value (.str x t) r = pure () := by intro _ _; with_unfolding_all rfl) :
    Exp c σ γ (.Subscript value (.Slice (some lo) (some hi) none p) pos) (vS (Txt.slice x (some i) (some j))) := fun s I => by
  refine sub_raw (wpAny_mono (h1 s I) (fun o s₁ ⟨e1, t, q1⟩ => wpAny_Slice (wpAny_evalPart_some (wpAny_mono (h2 s₁ (I.ext e1)) (fun vl s₂ ⟨e2, u, q2⟩ => wpAny_evalPart_some (wpAny_mono (h3 s₂ ((I.ext e1).ext e2)) (fun vu s₃ ⟨e3, w, q3⟩ => wpAny_evalPart_none ?_) fun _ _ x => x)) fun _ _ x => x))) fun _ _ x => x)
  subst q1 q2 q3
  refine tail_of_ItemOn (SBH.sliceItem_ss (P := KeepH s₃.heap) (fun h ob k b o e => Heap.get?_push_of_some _ (k b o e)) (fun _ _ e => e) (fun h' t' k kp => ⟨((e1.trans e2).trans e3).trans (.heapToks kp), _, rfl⟩) hsz) (by with_unfolding_all rfl) (ht t)

/-! displays -/
def ExpAll (c : Cx) (σ : List (Str × Ct)) (γ : Gh) (es : List PySem.Expr) (xs : List Vl) : Prop := All2 (fun e x => Exp c σ γ e x ∧ isStarred e = false) es xs
theorem ExpAll.nil : ExpAll c σ γ [] [] := trivial
theorem ExpAll.cons {e : PySem.Expr} {es : List PySem.Expr} {x : Vl} {xs : List Vl} (h : Exp c σ γ e x) (t : ExpAll c σ γ es xs) (hs : isStarred e = false := by rfl) : ExpAll c σ γ (e :: es) (x :: xs) := ⟨⟨h, hs⟩, t⟩
theorem starEach_cons {e : PySem.Expr} {es : List PySem.Expr} {env : Env} (h : isStarred e = false) : starEach (e :: es) env = (false, eval e env) :: starEach es env := by
  cases e <;> first | rfl | cases h
theorem backTo_cons {pos : Pos} {t : Sem Value} {r : List (Bool × Sem Value)} : backTo pos ((false, t) :: r) = (false, t) :: backTo pos r := rfl
theorem ExpAll.spl {pos : Pos} : ∀ {es : List PySem.Expr} {xs : List Vl}, ExpAll c σ γ es xs → ∀ s, Inv c σ γ s →
    wpAny c.M c.A (spliced (backTo pos (starEach es c.env))) (fun vs s' => Ext s s' ∧ All2 (fun x v => x.Is s'.heap v) xs vs) no s
  | [], [], _, s, I => spliced_nil ⟨.rfl', trivial⟩
  | e :: es, x :: xs, h, s, I => by
    rw [starEach_cons h.1.2, backTo_cons]
    refine spliced_cons (wpAny_mono (h.1.1 s I) (fun v s₁ ⟨e1, q1⟩ => wpAny_mono (ExpAll.spl h.2 s₁ (I.ext e1)) (fun vs s₂ ⟨e2, q2⟩ => ⟨e1.trans e2, q1.keep e2.keep, q2⟩) fun _ _ x => x) fun _ _ x => x)
  | [], _ :: _, h, _, _ => h.elim
  | _ :: _, [], h, _, _ => h.elim
theorem all2_map {α β γ' : Type} {R : β → γ' → Prop} (f : α → β) : ∀ {l : List α} {r : List γ'}, All2 R (l.map f) r → All2 (fun a b => R (f a) b) l r
  | [], [], _ => trivial
  | _ :: _, _ :: _, h => ⟨h.1, all2_map f h.2⟩
  | [], _ :: _, h => h.elim
  | _ :: _, [], h => h.elim
theorem Exp.tup {es : List PySem.Expr} {k : Nat} {pos : Pos} {xs : List At} (h : ExpAll c σ γ es (xs.map fun x => .p (.a x))) (hsz : es.length ≤ 100 := by decide) : Exp c σ γ (.Tuple es k pos) (.p (.t xs)) := fun s I =>
  wpAny_Tuple_spliced (wpAny_mono (h.spl s I) (fun vs s' ⟨e1, q⟩ => by
    have hl := q.length
    have hl2 : es.length = xs.length := by simpa using All2.length h
    refine ⟨by simp at hl; unfold sizeLine; omega, e1.trans .push, _, vs, rfl, ⟨_, Heap.get?_push_size _ rfl, rfl, 0, rfl⟩, ?_⟩
    exact all2_map (R := fun (x : Vl) v => x.Is s'.heap v) (fun x => .p (.a x)) q) fun _ _ x => x)
/-- a list display: its fresh list -/
theorem list_raw {es : List PySem.Expr} {pos : Pos} {ps : List Pt} (h : ExpAll c σ γ es (ps.map .p)) (hsz : es.length ≤ 100) {s : Shared} (I : Inv c σ γ s) :
    wpAny c.M c.A (eval (.List es pos) c.env) (fun v s' => Ext s s' ∧ ∃ a, v = .ref a ∧ s.heap.get? a = none ∧ Lst s'.heap a ps) no s :=
  wpAny_List_spliced (wpAny_mono (h.spl s I) (fun vs s' ⟨e1, q⟩ => by
    have hl := q.length
    have hl2 : es.length = ps.length := by simpa using All2.length h
    refine ⟨by simp at hl; unfold sizeLine; omega, e1.trans .push, _, rfl, ?_, Lst.new (all2_map (R := fun (x : Vl) v => x.Is s'.heap v) .p q)⟩
    cases hg : s.heap.get? s'.heap.objs.size with
    | none => rfl
    | some o => exact absurd (Heap.lt_size (e1.keep _ _ hg)) (Nat.lt_irrefl _)) fun _ _ x => x)
theorem Exp.list {es : List PySem.Expr} {pos : Pos} {ps : List Pt} (h : ExpAll c σ γ es (ps.map .p)) (hsz : es.length ≤ 100 := by decide) : Exp c σ γ (.List es pos) (.l ps) := fun s I =>
  wpAny_mono (list_raw h hsz I) (fun v s' ⟨e1, a, q1, _, q2⟩ => ⟨e1, a, q1, q2⟩) fun _ _ x => x
end
end Mine

namespace Mine
section
variable {c : Cx} {σ σ' : List (Str × Ct)} {γ : Gh} {s : Shared}

/-! ## changes of the state -/
theorem Inv.weak (I : Inv c σ γ s) (h : ∀ x ct, σ'.lookup x = some ct → σ.lookup x = some ct) : Inv c σ' γ s :=
  ⟨I.amb, I.keep, I.rest, ⟨I.frm.kind, I.frm.glob, I.frm.blt, I.frm.newL, let ⟨m, hn, hm⟩ := I.frm.loc; ⟨m, hn, fun x ct e => hm x ct (h x ct e)⟩, I.frm.cel, I.frm.inj, fun x ct e => I.frm.cv x ct (h x ct e)⟩, I.gh, I.kt⟩
theorem lookup_mem {σ : List (Str × Ct)} {x : Str} {ct : Ct} (h : σ.lookup x = some ct) : (x, ct) ∈ σ := by
  induction σ with
  | nil => cases h
  | cons p r ih =>
    obtain ⟨y, d⟩ := p
    rw [List.lookup_cons] at h
    cases hy : x == y with
    | true => rw [hy] at h; cases h; rw [beq_iff_eq.mp hy]; exact .head _
    | false => rw [hy] at h; exact .tail _ (ih h)
theorem Inv.sub (I : Inv c σ γ s) (h : ∀ p ∈ σ', σ.lookup p.1 = some p.2) : Inv c σ' γ s := I.weak fun x ct e => h (x, ct) (lookup_mem e)
theorem Inv.ghost {γ' : Gh} (I : Inv c σ γ s) (h : ∀ p ∈ γ'.objs, p ∈ γ.objs) (ht : KeepT γ'.tup s.heap) : Inv c σ γ' s := ⟨I.amb, I.keep, I.rest, I.frm, fun p hp => I.gh p (h p hp), ht⟩

/-- one object without names' contents changes -/
theorem Inv.chg' {h' : Heap} {tk : Nat} {a : Addr} {oa : Obj} (I : Inv c σ γ s) (ha : s.heap.get? a = some oa) (hs : ∀ vs n, oa.data ≠ .seq vs n) (hcl : ∀ v, oa.data ≠ .cell v) (hL : a ≠ c.env.locals) (hB : c.B.heap.get? a = none)
    (hγ : ∀ p ∈ γ.objs, p.1 ≠ a) (k : KeepBut a s.heap h') : Inv c σ γ { s with heap := h', toks := tk } := by
  have kc : ∀ (x : Str) ct v, Ct.Is s.heap ct v → Ct.Is h' ct v := fun x ct v y => y.other ha hs k
  have kcell : ∀ b v, s.heap.IsCell b v → h'.IsCell b v := fun b v ⟨o, ho, hc⟩ => ⟨o, k b o (by rintro rfl; rw [ha] at ho; cases ho; exact hcl _ hc) ho, hc⟩
  refine ⟨I.amb, fun b o e => k b o (by rintro rfl; rw [hB] at e; cases e) (I.keep b o e), by rw [I.rest], ⟨I.frm.kind, I.frm.glob, I.frm.blt, I.frm.newL, ?_, fun x b e => let ⟨v, q⟩ := I.frm.cel x b e; ⟨v, kcell _ _ q⟩, I.frm.inj, fun x ct e hk => let ⟨b, v, e1, e2, e3⟩ := I.frm.cv x ct e hk; ⟨b, v, e1, kcell _ _ e2, kc x _ _ e3⟩⟩, fun p hp => ⟨k _ _ (hγ p hp) (I.gh p hp).1, (I.gh p hp).2⟩, I.kt.trans (.but ha (.inr hs) k)⟩
  obtain ⟨m, hn, hm⟩ := I.frm.loc
  refine ⟨m, ?_, fun x ct e hk => let ⟨v, e1, e2⟩ := hm x ct e hk; ⟨v, e1, kc x _ _ e2⟩⟩
  obtain ⟨o, es, ep, ho, hdt, r⟩ := hn
  exact ⟨o, es, ep, k _ o (Ne.symm hL) ho, hdt, r⟩
theorem Inv.chg {h' : Heap} {tk : Nat} {a : Addr} {vs : Array Value} {oa : Obj} (I : Inv c σ γ s) (ha : s.heap.get? a = some oa) (hd : oa.data = .fields vs) (hB : c.B.heap.get? a = none)
    (hγ : ∀ p ∈ γ.objs, p.1 ≠ a) (k : KeepBut a s.heap h') : Inv c σ γ { s with heap := h', toks := tk } :=
  I.chg' ha (fun _ _ e => by rw [hd] at e; cases e) (fun _ e => by rw [hd] at e; cases e) (by
    rintro rfl
    obtain ⟨m, ⟨o, es, ep, ho, hdt, _⟩, _⟩ := I.frm.loc
    rw [ha] at ho; cases ho; rw [hd] at hdt; cases hdt) hB hγ k

theorem lookup_cons_ne {x y : Str} {ct : Ct} (h : y ≠ x) : ((x, ct) :: σ).lookup y = σ.lookup y := by
  rw [List.lookup_cons, beq_eq_false_iff_ne.mpr h]
theorem lookup_cons_eq {x : Str} {ct : Ct} : ((x, ct) :: σ).lookup x = some ct := by rw [List.lookup_cons, beq_self_eq_true]

theorem Inv.storeLoc' {x : Str} {ct : Ct} {v : Value} {Q : Unit → Shared → Prop} {E : Value → Shared → Prop} (I : Inv c σ γ s) (hv : ct.Is s.heap v) (hk : c.env.kindOf x = some .local)
    (h : ∀ s', Inv c ((x, ct) :: σ) γ s' → KeepBut c.env.locals s.heap s'.heap → Q () s') : wpAny c.M c.A (storeName c.env x v) Q E s := by
  obtain ⟨m, hn, hm⟩ := I.frm.loc
  refine wpAny_storeName_local hk hn (fun h' hn' hs => ?_) (by rw [I.frm.kind]; rfl)
  obtain ⟨oL, es, ep, hL, hdL, _, _⟩ := hn
  have k : KeepBut c.env.locals s.heap h' := fun b o hb e => (hs.2 b hb).trans e
  have hs : ∀ vs n, oL.data ≠ .seq vs n := fun _ _ e => by rw [hdL] at e; cases e
  have kc : ∀ ct v, Ct.Is s.heap ct v → Ct.Is h' ct v := fun ct v y => y.other hL hs k
  have kcell : ∀ b v, s.heap.IsCell b v → h'.IsCell b v := fun b v ⟨o, ho, hc⟩ => ⟨o, k b o (by rintro rfl; rw [hL] at ho; cases ho; rw [hdL] at hc; cases hc) ho, hc⟩
  refine h _ ⟨I.amb, fun b o e => k b o (by rintro rfl; rw [I.frm.newL] at e; cases e) (I.keep b o e), by rw [I.rest], ⟨I.frm.kind, I.frm.glob, I.frm.blt, I.frm.newL, ⟨_, hn', fun y ct' e hky => ?_⟩, fun y b e => let ⟨v, q⟩ := I.frm.cel y b e; ⟨v, kcell _ _ q⟩, I.frm.inj, fun y ct' e hky => ?_⟩, fun p hp => ⟨k _ _ ?_ (I.gh p hp).1, (I.gh p hp).2⟩, I.kt.trans (.but hL (.inr hs) k)⟩ k
  · by_cases hy : y = x
    · subst hy
      rw [lookup_cons_eq] at e; cases e
      exact ⟨v, by simp, kc _ _ hv⟩
    · rw [lookup_cons_ne hy] at e
      obtain ⟨v', e1, e2⟩ := hm y ct' e hky
      exact ⟨v', by simp [hy, e1], kc _ _ e2⟩
  · have hy : y ≠ x := by rintro rfl; rw [hk] at hky; rcases hky with q | q <;> cases q
    rw [lookup_cons_ne hy] at e
    obtain ⟨b, v', e1, e2, e3⟩ := I.frm.cv y ct' e hky
    exact ⟨b, v', e1, kcell _ _ e2, kc _ _ e3⟩
  · intro q
    obtain ⟨g1, g2⟩ := I.gh p hp
    rw [q, hL] at g1; cases g1
    rcases g2 with ⟨vs, g⟩ | ⟨vs, n, g⟩ <;> (rw [hdL] at g; cases g)

theorem Inv.storeLoc {x : Str} {ct : Ct} {v : Value} {Q : Unit → Shared → Prop} {E : Value → Shared → Prop} (I : Inv c σ γ s) (hv : ct.Is s.heap v) (hk : c.env.kindOf x = some .local)
    (h : ∀ s', Inv c ((x, ct) :: σ) γ s' → Q () s') : wpAny c.M c.A (storeName c.env x v) Q E s := I.storeLoc' hv hk fun s' I' _ => h s' I'

theorem Inv.storeCell {x : Str} {ct : Ct} {v : Value} {Q : Unit → Shared → Prop} {E : Value → Shared → Prop} {b : Addr} (I : Inv c σ γ s) (hv : ct.Is s.heap v) (hk : c.env.kindOf x = some .cell)
    (hb : c.env.cells.lookup x = some b) (hB : c.B.heap.get? b = none) (h : ∀ s', Inv c ((x, ct) :: σ) γ s' → Q () s') : wpAny c.M c.A (storeName c.env x v) Q E s := by
  obtain ⟨v0, hc0⟩ := I.frm.cel x b hb
  refine wpAny_storeName_cell I.frm.kind hk hb hc0 (fun h' hc' hs => ?_)
  obtain ⟨oc, hoc, hdc⟩ := hc0
  have k : KeepBut b s.heap h' := fun a o ha e => (hs.2 a ha).trans e
  have hs : ∀ vs n, oc.data ≠ .seq vs n := fun _ _ e => by rw [hdc] at e; cases e
  have kc : ∀ ct v, Ct.Is s.heap ct v → Ct.Is h' ct v := fun ct v y => y.other hoc hs k
  refine h _ ⟨I.amb, fun a o e => k a o (by rintro rfl; rw [hB] at e; cases e) (I.keep a o e), by rw [I.rest], ⟨I.frm.kind, I.frm.glob, I.frm.blt, I.frm.newL, ?_, fun y a e => ?_, I.frm.inj, fun y ct' e hky => ?_⟩, fun p hp => ⟨k _ _ ?_ (I.gh p hp).1, (I.gh p hp).2⟩, I.kt.trans (.but hoc (.inr hs) k)⟩
  · obtain ⟨m, hn, hm⟩ := I.frm.loc
    refine ⟨m, ?_, fun y ct' e hky => ?_⟩
    · obtain ⟨o, es, ep, ho, hdt, r⟩ := hn
      exact ⟨o, es, ep, k _ o (by intro q; rw [q, hoc] at ho; cases ho; rw [hdc] at hdt; cases hdt) ho, hdt, r⟩
    · have hy : y ≠ x := by rintro rfl; rw [hk] at hky; cases hky
      rw [lookup_cons_ne hy] at e
      obtain ⟨v', e1, e2⟩ := hm y ct' e hky
      exact ⟨v', e1, kc _ _ e2⟩
  · by_cases ha : a = b
    · subst ha; exact ⟨_, hc'⟩
    · obtain ⟨v', o, ho, hd⟩ := I.frm.cel y a e
      exact ⟨v', o, k a o ha ho, hd⟩
  · by_cases hy : y = x
    · subst hy
      rw [lookup_cons_eq] at e; cases e
      exact ⟨b, v, hb, hc', kc _ _ hv⟩
    · rw [lookup_cons_ne hy] at e
      obtain ⟨a, v', e1, ⟨o, ho, hd⟩, e3⟩ := I.frm.cv y ct' e hky
      refine ⟨a, v', e1, ⟨o, k a o ?_ ho, hd⟩, kc _ _ e3⟩
      rintro rfl
      exact hy (I.frm.inj _ _ _ e1 hb)
  · intro q
    obtain ⟨g1, g2⟩ := I.gh p hp
    rw [q, hoc] at g1; cases g1
    rcases g2 with ⟨vs, g⟩ | ⟨vs, n, g⟩ <;> (rw [hdc] at g; cases g)

/-- x may be stored: a local name, or a cell of the frame's own -/
def Sto (c : Cx) (x : Str) : Prop := c.env.kindOf x = some .local ∨ (c.env.kindOf x = some .cell ∧ ∃ b, c.env.cells.lookup x = some b ∧ c.B.heap.get? b = none)
theorem Inv.store {x : Str} {ct : Ct} {v : Value} {Q : Unit → Shared → Prop} {E : Value → Shared → Prop} (I : Inv c σ γ s) (hv : ct.Is s.heap v) (hk : Sto c x)
    (h : ∀ s', Inv c ((x, ct) :: σ) γ s' → Q () s') : wpAny c.M c.A (storeName c.env x v) Q E s := by
  rcases hk with hk | ⟨hk, b, hb, hB⟩
  · exact I.storeLoc hv hk h
  · exact I.storeCell hv hk hb hB h

/-! a list changes -/
def setL (a : Addr) (ps : List Pt) : Ct → Ct
  | .l b qs => if b = a then .l a ps else .l b qs
  | .p q => .p q
def updL (a : Addr) (ps : List Pt) (σ : List (Str × Ct)) : List (Str × Ct) := σ.map fun p => (p.1, setL a ps p.2)
theorem lookup_updL {a : Addr} {ps : List Pt} {x : Str} : ∀ {σ : List (Str × Ct)}, (updL a ps σ).lookup x = (σ.lookup x).map (setL a ps)
  | [] => rfl
  | (y, d) :: r => by
    show List.lookup x ((y, setL a ps d) :: updL a ps r) = _
    rw [List.lookup_cons, List.lookup_cons]
    cases x == y with
    | true => rfl
    | false => exact lookup_updL
theorem Inv.lst {h' : Heap} {tk : Nat} {a : Addr} {ps qs : List Pt} (I : Inv c σ γ s) (ha : Lst s.heap a ps) (hB : c.B.heap.get? a = none) (hγ : ∀ p ∈ γ.objs, p.1 ≠ a)
    (k : KeepBut a s.heap h') (hn : Lst h' a qs) : Inv c (updL a qs σ) γ { s with heap := h', toks := tk } := by
  obtain ⟨vs, ⟨n, e⟩, _⟩ := ha
  have nt : NoTup ({ cls := .type "list", data := .seq vs.toArray n } : Obj) := .inl (by simp)
  have kc : ∀ ct v, Ct.Is s.heap ct v → Ct.Is h' (setL a qs ct) v := fun ct v y => by
    cases ct with
    | p q => exact Pt.Is.but (p := q) y e nt k
    | l b rs =>
      show Ct.Is h' (if b = a then .l a qs else .l b rs) v
      by_cases hb : b = a
      · rw [if_pos hb]; exact ⟨hb ▸ y.1, hn⟩
      · rw [if_neg hb]; exact ⟨y.1, y.2.but e nt k hb⟩
  have kcell : ∀ b v, s.heap.IsCell b v → h'.IsCell b v := fun b v ⟨o, ho, hc⟩ => ⟨o, k b o (by rintro rfl; rw [e] at ho; cases ho; cases hc) ho, hc⟩
  refine ⟨I.amb, fun b o e' => k b o (by rintro rfl; rw [hB] at e'; cases e') (I.keep b o e'), by rw [I.rest], ⟨I.frm.kind, I.frm.glob, I.frm.blt, I.frm.newL, ?_, fun x b e' => let ⟨v, q⟩ := I.frm.cel x b e'; ⟨v, kcell _ _ q⟩, I.frm.inj, fun x ct e' hk => ?_⟩, fun p hp => ⟨k _ _ (hγ p hp) (I.gh p hp).1, (I.gh p hp).2⟩, I.kt.trans (.but e nt k)⟩
  · obtain ⟨m, hn, hm⟩ := I.frm.loc
    refine ⟨m, ?_, fun x ct e' hk => ?_⟩
    · obtain ⟨o, es, ep, ho, hdt, r⟩ := hn
      exact ⟨o, es, ep, k _ o (by intro q; rw [q, e] at ho; cases ho; cases hdt) ho, hdt, r⟩
    · rw [lookup_updL] at e'
      cases hl : σ.lookup x with
      | none => rw [hl] at e'; cases e'
      | some d =>
        rw [hl] at e'; cases e'
        obtain ⟨v, e1, e2⟩ := hm x d hl hk
        exact ⟨v, e1, kc _ _ e2⟩
  · rw [lookup_updL] at e'
    cases hl : σ.lookup x with
    | none => rw [hl] at e'; cases e'
    | some d =>
      rw [hl] at e'; cases e'
      obtain ⟨b, v, e1, e2, e3⟩ := I.frm.cv x d hl hk
      exact ⟨b, v, e1, kcell _ _ e2, kc _ _ e3⟩

/-! ## statements -/
abbrev W (c : Cx) (body : List Stmt) (Q : Flow → Shared → Prop) (E : Value → Shared → Prop) (s : Shared) : Prop := wpAny c.M c.A (execs body c.env) Q E s
variable {rest : List Stmt} {Q : Flow → Shared → Prop} {E : Value → Shared → Prop}

/-- a fresh list -/
def ExpF (c : Cx) (σ : List (Str × Ct)) (γ : Gh) (e : PySem.Expr) (ps : List Pt) : Prop :=
  ∀ s, Inv c σ γ s → wpAny c.M c.A (eval e c.env) (fun v s' => Ext s s' ∧ ∃ a, v = .ref a ∧ s.heap.get? a = none ∧ Lst s'.heap a ps) no s
theorem ExpF.exp {e : PySem.Expr} {ps : List Pt} (h : ExpF c σ γ e ps) : Exp c σ γ e (.l ps) := fun s I => wpAny_mono (h s I) (fun v s' ⟨e1, a, q1, _, q2⟩ => ⟨e1, a, q1, q2⟩) fun _ _ x => x
theorem ExpF.list {es : List PySem.Expr} {pos : Pos} {ps : List Pt} (h : ExpAll c σ γ es (ps.map .p)) (hsz : es.length ≤ 100 := by decide) : ExpF c σ γ (.List es pos) ps := fun s I => list_raw h hsz I

theorem W.assign {x : Str} {px pos : Pos} {e : PySem.Expr} {p : Pt} (I : Inv c σ γ s) (h : Exp c σ γ e (.p p)) (hx : Sto c x) (k : ∀ s', Inv c ((x, .p p) :: σ) γ s' → W c rest Q E s')
    (hs : swapsWith e (some (.Name x px)) pos.line c.env = pure false := by rfl) : W c (.Assign [.Name x px] e pos :: rest) Q E s :=
  wpAny_execs_cons (wpAny_Assign_Name (wpAny_mono (h s I) (fun v s' ⟨e1, q⟩ => (I.ext e1).store (ct := .p p) q hx fun s'' I' => k s'' I') fun _ _ x => x.elim) hs)
theorem W.assignF {x : Str} {px pos : Pos} {e : PySem.Expr} {ps : List Pt} (I : Inv c σ γ s) (h : ExpF c σ γ e ps) (hx : Sto c x) (k : ∀ a s', s.heap.get? a = none → Inv c ((x, .l a ps) :: σ) γ s' → W c rest Q E s')
    (hs : swapsWith e (some (.Name x px)) pos.line c.env = pure false := by rfl) : W c (.Assign [.Name x px] e pos :: rest) Q E s :=
  wpAny_execs_cons (wpAny_Assign_Name (wpAny_mono (h s I) (fun v s' ⟨e1, a, q1, q2, q3⟩ => (I.ext e1).store (ct := .l a ps) ⟨q1, q3⟩ hx fun s'' I' => k a s'' q2 I') fun _ _ x => x.elim) hs)
theorem W.ret {e : PySem.Expr} {pos : Pos} {x : Vl} (I : Inv c σ γ s) (h : Exp c σ γ e x) (k : ∀ v s', Ext s s' → x.Is s'.heap v → Q (.ret v) s') : W c (.Return (some e) pos :: rest) Q E s :=
  wpAny_execs_cons (wpAny_Return_some (wpAny_mono (h s I) (fun v s' ⟨e1, q⟩ => k v s' e1 q) fun _ _ x => x.elim))
theorem W.retF {e : PySem.Expr} {pos : Pos} {ps : List Pt} (I : Inv c σ γ s) (h : ExpF c σ γ e ps) (k : ∀ a s', Ext s s' → s.heap.get? a = none → Lst s'.heap a ps → Q (.ret (.ref a)) s') : W c (.Return (some e) pos :: rest) Q E s :=
  wpAny_execs_cons (wpAny_Return_some (wpAny_mono (h s I) (fun v s' ⟨e1, a, q1, q2, q3⟩ => by subst q1; exact k a s' e1 q2 q3) fun _ _ x => x.elim))
theorem W.nil (k : Q .next s) : W c [] Q E s := wpAny_execs_nil k
theorem W.ite {test : PySem.Expr} {body orelse : List Stmt} {pos : Pos} {b : Bool} (I : Inv c σ γ s) (h : Tst c σ γ test b)
    (k : ∀ s', Inv c σ γ s' → W c (if b then body else orelse) (fun f s'' => match f with | .next => W c rest Q E s'' | f => Q f s'') E s') : W c (.If test body orelse pos :: rest) Q E s := by
  refine wpAny_execs_cons (wpAny_If (wpAny_mono (h s I) (fun r s' ⟨e1, q⟩ => ?_) fun _ _ x => x.elim))
  subst q
  cases r
  · exact k s' (I.ext e1)
  · exact k s' (I.ext e1)
end
end Mine

namespace Mine
section
variable {c : Cx} {σ σ' : List (Str × Ct)} {γ : Gh} {s : Shared}

/-- an iterator that hands out ps -/
structure SrcAt (c : Cx) (s s₂ : Shared) (it : Value) (ps : List Pt) (R : Addr → Prop) (I : Addr) (fr : List Addr) (P : Nat → Value → Prop) (St : Nat → Heap → Prop) : Prop where
  ref : it = .ref I
  walks : Walks c.prog c.w c.A I (I :: fr) [I] ps.length P St
  start : St 0 s₂.heap
  new : s.heap.get? I = none
  fields : ∀ i h, St i h → ∃ o vs, h.get? I = some o ∧ o.data = .fields vs
  item : ∀ i v, P i v → ∀ h, KeepT s₂.heap h → ∃ p, ps[i]? = some p ∧ p.Is h v
  rest : ∀ b ∈ fr, R b ∧ ∃ o, s₂.heap.get? b = some o ∧ Flat o.data ∧ b ≠ I
  restNow : ∀ i h, St i h → ∀ b ∈ fr, ∃ o, h.get? b = some o ∧ Flat o.data

/-- evaluating iter and taking its iterator -/
def Src (c : Cx) (σ : List (Str × Ct)) (γ : Gh) (iter : PySem.Expr) (ps : List Pt) (R : Shared → Addr → Prop) : Prop :=
  ∀ s, Inv c σ γ s → wpAny c.M c.A (eval iter c.env) (fun xv s₁ => wpAny c.M c.A (pyIter xv) (fun it s₂ => Ext s s₂ ∧ ∃ I fr P St, SrcAt c s s₂ it ps (R s) I fr P St) no s₁) no s

theorem none_of_size {h h' : Heap} (k : KeepH h h') : h.get? h'.objs.size = none := by
  cases hg : h.get? h'.objs.size with
  | none => rfl
  | some o => exact absurd (Heap.lt_size (k _ _ hg)) (Nat.lt_irrefl _)

/-- over a list -/
theorem Src.list {iter : PySem.Expr} {ps : List Pt} {R : Shared → Addr → Prop} (hh : c.A.handled = none)
    (h : ∀ s, Inv c σ γ s → wpAny c.M c.A (eval iter c.env) (fun v s' => Ext s s' ∧ ∃ a, v = .ref a ∧ R s a ∧ Lst s'.heap a ps) no s) : Src c σ γ iter ps R := fun s I =>
  wpAny_mono (h s I) (fun v s₁ ⟨e1, a, q1, q2, q3⟩ => by
    subst q1
    obtain ⟨vs, ⟨n, e⟩, q⟩ := q3
    have L : s₁.heap.IsList a vs.toArray := ⟨_, e, rfl, n, rfl⟩
    have ha : a < s₁.heap.objs.size := Heap.lt_size e
    have Wk := Walks.list (prog := c.prog) (w := c.w) hh s₁.heap.objs.size a (Nat.ne_of_lt ha) vs.toArray
    rw [show vs.toArray.size = ps.length by simp [q.length]] at Wk
    refine wpAny_pyIter_list L ⟨e1.trans .push, s₁.heap.objs.size, [a], _, _, ⟨rfl, Wk, ?_, none_of_size e1.keep, ?_, ?_, ?_, ?_⟩⟩
    · exact ⟨⟨_, Heap.get?_push_size _ rfl, rfl, rfl⟩, L.push _⟩
    · rintro i h ⟨⟨o, ho, _, hd⟩, _⟩; exact ⟨o, _, ho, hd⟩
    · intro i v hv h kt
      have hi : i < vs.length := by
        have := (Array.getElem?_eq_some_iff.mp hv).1; simpa using this
      obtain ⟨p, hp⟩ : ∃ p, ps[i]? = some p := ⟨ps[i]'(by rw [q.length]; exact hi), by simp⟩
      obtain ⟨v', hv', hq⟩ := q.get hp
      have : v' = v := by
        have h1 : vs[i]? = some v := by simpa using hv
        rw [h1] at hv'; cases hv'; rfl
      subst this
      exact ⟨p, hp, (hq.keep (fun b o e => Heap.get?_push_of_some _ e)).keepT kt⟩
    · intro b hb
      rw [List.mem_singleton.mp hb]
      exact ⟨q2, _, Heap.get?_push_of_some _ e, .inr ⟨_, _, rfl⟩, Nat.ne_of_lt ha⟩
    · rintro i h ⟨_, o, ho, _, n, hd⟩ b hb
      rw [List.mem_singleton.mp hb]
      exact ⟨o, ho, .inr ⟨_, _, hd⟩⟩) fun _ _ x => x
theorem Src.fresh {iter : PySem.Expr} {ps : List Pt} (hh : c.A.handled = none) (h : ExpF c σ γ iter ps) : Src c σ γ iter ps (fun s b => s.heap.get? b = none) :=
  .list hh fun s I => h s I
theorem Src.any {iter : PySem.Expr} {ps : List Pt} (hh : c.A.handled = none) (h : Exp c σ γ iter (.l ps)) : Src c σ γ iter ps (fun _ _ => True) :=
  .list hh fun s I => wpAny_mono (h s I) (fun v s' ⟨e1, a, q1, q2⟩ => ⟨e1, a, q1, trivial, q2⟩) fun _ _ x => x
/-- over a tuple -/
theorem Src.tup {iter : PySem.Expr} {xs : List At} (hh : c.A.handled = none) (h : Exp c σ γ iter (.p (.t xs))) : Src c σ γ iter (xs.map .a) (fun s b => True) := fun s I =>
  wpAny_mono (h s I) (fun v s₁ ⟨e1, a, vs, q1, ⟨o, e, hcl, n, hd⟩, q⟩ => by
    subst q1
    have L : s₁.heap.IsTuple a vs.toArray := ⟨o, e, hcl, n, hd⟩
    have ha : a < s₁.heap.objs.size := Heap.lt_size e
    have Wk := Walks.tuple (prog := c.prog) (w := c.w) hh s₁.heap.objs.size a (Nat.ne_of_lt ha) vs.toArray
    rw [show vs.toArray.size = (xs.map Pt.a).length by simp [q.length]] at Wk
    refine wpAny_pyIter_tuple L ⟨e1.trans .push, s₁.heap.objs.size, [a], _, _, ⟨rfl, Wk, ?_, none_of_size e1.keep, ?_, ?_, ?_, ?_⟩⟩
    · exact ⟨⟨_, Heap.get?_push_size _ rfl, rfl, rfl⟩, L.push _⟩
    · rintro i h ⟨⟨o, ho, _, hd⟩, _⟩; exact ⟨o, _, ho, hd⟩
    · intro i v hv h kt
      have hi : i < vs.length := by
        have := (Array.getElem?_eq_some_iff.mp hv).1; simpa using this
      obtain ⟨p, hp⟩ : ∃ p, xs[i]? = some p := ⟨xs[i]'(by rw [q.length]; exact hi), by simp⟩
      obtain ⟨v', hv', hq⟩ := q.get hp
      have : v' = v := by
        have h1 : vs[i]? = some v := by simpa using hv
        rw [h1] at hv'; cases hv'; rfl
      subst this
      exact ⟨.a p, by simp [hp], hq⟩
    · intro b hb
      rw [List.mem_singleton.mp hb]
      exact ⟨trivial, _, Heap.get?_push_of_some _ e, .inr ⟨_, _, hd⟩, Nat.ne_of_lt ha⟩
    · rintro i h ⟨_, o, ho, _, n, hd⟩ b hb
      rw [List.mem_singleton.mp hb]
      exact ⟨o, ho, .inr ⟨_, _, hd⟩⟩) fun _ _ x => x

/-! range -/
def rng (a b : Int) : List Pt := (List.range (b - a).toNat).map fun i => pI (a + (i : Nat))
theorem rng_length {a b : Int} : (rng a b).length = (b - a).toNat := by simp [rng]
theorem rng_get {a b : Int} {i : Nat} {p : Pt} (h : (rng a b)[i]? = some p) : p = pI (a + (i : Nat)) ∧ i < (b - a).toNat := by
  unfold rng at h
  rw [List.getElem?_map] at h
  cases hr : (List.range (b - a).toNat)[i]? with
  | none => rw [hr] at h; cases h
  | some j =>
    rw [hr] at h; cases h
    obtain ⟨h1, h2⟩ := List.getElem?_eq_some_iff.mp hr
    rw [List.length_range] at h1
    rw [List.getElem_range] at h2
    subst h2
    exact ⟨rfl, h1⟩
theorem small_of {a b : Int} (ha : -(2 ^ 62) ≤ a ∧ a < 2 ^ 62) (hb : -(2 ^ 62) ≤ b ∧ b < 2 ^ 62) : Builtin.Range.small a b 1 = true := small_one ha.1 ha.2 hb.1 hb.2
theorem rng_at {a b : Int} {i : Nat} (h : i < (b - a).toNat) : (rng a b)[i]? = some (pI (a + (i : Nat))) := by
  unfold rng
  rw [List.getElem?_map, List.getElem?_range h]; rfl
theorem rangeIter {a b : Int} (hh : c.A.handled = none) {s s₁ : Shared} {r : Addr} {t u v : Tok} (e1 : Ext s s₁) (hr : IsRange s₁.heap r a b 1 t u v) (ha : -(2 ^ 62) ≤ a ∧ a < 2 ^ 62) (hb : -(2 ^ 62) ≤ b ∧ b < 2 ^ 62) :
    wpAny c.M c.A (pyIter (.ref r)) (fun it s₂ => Ext s s₂ ∧ ∃ I fr P St, SrcAt c s s₂ it (rng a b) (fun _ => False) I fr P St) no s₁ := by
  have Wk := (Walks.range (prog := c.prog) (w := c.w) hh s₁.heap.objs.size a 1 (b - a).toNat).bound
  rw [← rng_length (a := a) (b := b)] at Wk
  refine wpAny_pyIter_range hr (small_of ha hb) ⟨e1.trans .push, s₁.heap.objs.size, [], _, _, ⟨rfl, Wk, ?_, none_of_size e1.keep, ?_, ?_, ?_, ?_⟩⟩
  · rw [rng_length, rangeSize_nat]
    show IsRangeIter _ _ _ _ _
    simpa using Heap.get?_push_size _ rfl
  · intro i h st; exact ⟨_, _, st, rfl⟩
  · rintro i w ⟨hi, t, rfl⟩ h kt
    rw [rng_length] at hi
    exact ⟨_, rng_at hi, t, by rw [Int.mul_one]⟩
  · intro b hb; cases hb
  · intro i h st b hb; cases hb
theorem Src.range1 {x : PySem.Expr} {np pos : Pos} {n : Int} (hh : c.A.handled = none) (h : Exp c σ γ x (vI n)) (e : nsIn c.K mainGlobals "range" = some none) (hk : c.env.kindOf "range" = some .globalImplicit)
    (hn : -(2 ^ 62) ≤ n ∧ n < 2 ^ 62) (hs : isStarred x = false := by rfl) : Src c σ γ (.Call (.Name "range" np) [x] [] pos) (rng 0 n) (fun _ _ => False) := fun s I =>
  wpAny_Call_NameR (nameB I e (v := .type "range") (by decide +kernel) hk (PyProof.Rows.callWith_type1 (he := starEach_cons hs) (by
    rw [starEach_cons hs]
    refine spliced_cons (wpAny_mono (h s I) (fun v s₁ ⟨e1, t, q⟩ => spliced_nil ?_) fun _ _ x => x)
    subst q
    exact call_range_1 (rangeIter hh (e1.trans (.heapToks fun b o e => Heap.get?_push_of_some _ e)) (IsRange.new ..) (by omega) hn))))
theorem Src.range2 {x y : PySem.Expr} {np pos : Pos} {m n : Int} (hh : c.A.handled = none) (h1 : Exp c σ γ x (vI m)) (h2 : Exp c σ γ y (vI n)) (e : nsIn c.K mainGlobals "range" = some none) (hk : c.env.kindOf "range" = some .globalImplicit)
    (hm : -(2 ^ 62) ≤ m ∧ m < 2 ^ 62) (hn : -(2 ^ 62) ≤ n ∧ n < 2 ^ 62) (hs : isStarred x = false := by rfl) (hs' : isStarred y = false := by rfl) : Src c σ γ (.Call (.Name "range" np) [x, y] [] pos) (rng m n) (fun _ _ => False) := fun s I =>
  wpAny_Call_NameR (nameB I e (v := .type "range") (by decide +kernel) hk (PyProof.Rows.callWith_type1 (he := starEach_cons hs) (hplain := by rw [starEach_cons hs']; rfl) (by
    rw [starEach_cons hs, starEach_cons hs']
    refine spliced_cons (wpAny_mono (h1 s I) (fun v s₁ ⟨e1, t, q⟩ => spliced_cons (wpAny_mono (h2 s₁ (I.ext e1)) (fun v' s₂ ⟨e2, t', q'⟩ => spliced_nil ?_) fun _ _ x => x)) fun _ _ x => x)
    subst q q'
    exact call_range_2 (rangeIter hh ((e1.trans e2).trans (.heapToks fun b o e => Heap.get?_push_of_some _ e)) (IsRange.new ..) hm hn))))

/-! ## loops -/
variable {rest : List Stmt} {Q : Flow → Shared → Prop} {E : Value → Shared → Prop}
/-- a for over a source. J i: the names' contents ahead of turn i. -/
theorem W.for_ {x : Str} {px pos : Pos} {iter : PySem.Expr} {body : List Stmt} {ps : List Pt} {R : Shared → Addr → Prop} {Rt : Value → Shared → Prop} (J : Nat → List (Str × Ct)) (I : Inv c (J 0) γ s)
    (hsrc : Src c (J 0) γ iter ps R) (hx : Sto c x)
    (hbody : ∀ i p γ' s', ps[i]? = some p → (∀ q ∈ γ'.objs, q ∈ γ.objs ∨ s.heap.get? q.1 = none ∨ R s q.1) → Inv c ((x, .p p) :: J i) γ' s' →
      W c body (fun f s'' => match f with | .next => Inv c (J (i + 1)) γ' s'' | .ret v => Rt v s'' | _ => False) no s')
    (k : ∀ s', Inv c (J ps.length) γ s' → W c rest Q E s') (kr : ∀ v s', Rt v s' → Q (.ret v) s')
    (hs : ∀ x, foldedSetIterable iter c.env x = pure x := by intro _; rfl) (ht : ∀ it v, letOwnedTupleGo (.Name x px) it v = pure () := by intro _ _; rfl) :
    W c (.For (.Name x px) iter body [] pos :: rest) Q E s := by
  refine wpAny_execs_cons (wpAny_For (wpAny_mono (hsrc s I) (fun xv s₁ h₁ => wpAny_mono h₁ (fun it s₂ ⟨e2, It, fr, P, St, S⟩ => ?_) fun _ _ x => x.elim) fun _ _ x => x.elim) hs)
  have I2 := I.ext e2
  obtain rfl := S.ref
  have hB : c.B.heap.get? It = none := by
    cases hg : c.B.heap.get? It with
    | none => rfl
    | some o => have := I.keep _ _ hg; rw [S.new] at this; cases this
  have hγI : ∀ p ∈ γ.objs, p.1 ≠ It := fun p hp q => by
    have := (I.gh p hp).1; rw [q, S.new] at this; cases this
  refine codeAny_forLoop (fun n s' => ∃ i, n = ps.length + 1 - i ∧ i ≤ ps.length ∧ St i s'.heap ∧ Inv c (J i) γ s' ∧ KeepT s₂.heap s'.heap) ?_ (ps.length + 1) ⟨0, by omega, by omega, S.start, I2, fun _ _ x => x⟩ (ht _)
  rintro n s' ⟨i, rfl, hi, hst, I', kt⟩
  obtain ⟨o0, vs0, ho0, hd0⟩ := S.fields i _ hst
  have nt0 : NoTup o0 := .inr fun _ _ e => by rw [hd0] at e; cases e
  by_cases hlt : i < ps.length
  · refine S.walks.item i s' _ _ hlt hst fun v h' tk hP hst' kp => ?_
    have kb : KeepBut It s'.heap h' := fun b o hb e => kp b o (by simpa using hb) e
    have I1 : Inv c (J i) γ { s' with heap := h', toks := tk } := I'.chg ho0 hd0 hB hγI kb
    obtain ⟨o1, vs1, ho1, hd1⟩ := S.fields (i + 1) _ hst'
    obtain ⟨p, hp, hpi⟩ := S.item i v hP h' (kt.trans (.but ho0 nt0 kb))
    -- the iterator and what it walks stand during the turn
    have hfr : ∃ γ₁ : List (Addr × Obj), (∀ b ∈ It :: fr, ∃ o, (b, o) ∈ γ₁) ∧ ∀ q ∈ γ₁, q.1 ∈ It :: fr ∧ h'.get? q.1 = some q.2 ∧ Flat q.2.data := by
      have aux : ∀ l : List Addr, (∀ b ∈ l, ∃ o, h'.get? b = some o ∧ Flat o.data) → ∃ γ₁ : List (Addr × Obj), (∀ b ∈ l, ∃ o, (b, o) ∈ γ₁) ∧ ∀ q ∈ γ₁, q.1 ∈ l ∧ h'.get? q.1 = some q.2 ∧ Flat q.2.data := by
        intro l
        induction l with
        | nil => intro _; exact ⟨[], by simp, by simp⟩
        | cons b l ih =>
          intro hl
          obtain ⟨g, g1, g2⟩ := ih fun b' hb' => hl b' (.tail _ hb')
          obtain ⟨o, ho, hf⟩ := hl b (.head _)
          refine ⟨(b, o) :: g, fun b' hb' => ?_, fun q hq => ?_⟩
          · rcases List.mem_cons.mp hb' with rfl | hb'
            · exact ⟨o, .head _⟩
            · obtain ⟨o', ho'⟩ := g1 b' hb'; exact ⟨o', .tail _ ho'⟩
          · rcases List.mem_cons.mp hq with rfl | hq
            · exact ⟨.head _, ho, hf⟩
            · exact ⟨.tail _ (g2 q hq).1, (g2 q hq).2⟩
      refine aux _ fun b hb => ?_
      rcases List.mem_cons.mp hb with rfl | hb
      · exact ⟨o1, ho1, .inl ⟨_, hd1⟩⟩
      · exact S.restNow (i + 1) h' hst' b hb
    obtain ⟨γ₁, g1, g2⟩ := hfr
    have I1' : Inv c (J i) ⟨γ.objs ++ γ₁, h'⟩ { s' with heap := h', toks := tk } := ⟨I1.amb, I1.keep, I1.rest, I1.frm, fun q hq => by
      rcases List.mem_append.mp hq with hq | hq
      · exact I1.gh q hq
      · exact (g2 q hq).2, .rfl'⟩
    refine wpAny_assign_Name (I1'.store (ct := .p p) hpi hx fun s'' I'' => ?_)
    refine wpAny_mono (hbody i p ⟨γ.objs ++ γ₁, h'⟩ s'' hp (fun q hq => ?_) I'') (fun f s₃ hf => ?_) fun _ _ x => x.elim
    · rcases List.mem_append.mp hq with hq | hq
      · exact .inl hq
      · rcases List.mem_cons.mp (g2 q hq).1 with e | e
        · rw [e]; exact .inr (.inl S.new)
        · exact .inr (.inr (S.rest _ e).1)
    · cases f with
      | next =>
        have I3 := hf
        refine ⟨ps.length + 1 - (i + 1), by omega, i + 1, rfl, hlt, S.walks.frame _ _ _ hst' fun b hb o e => ?_, I3.ghost (fun q hq => List.mem_append_left _ hq) (I1.kt.trans I3.kt), (kt.trans (.but ho0 nt0 kb)).trans I3.kt⟩
        obtain ⟨o', hm⟩ := g1 b hb
        have := (g2 _ hm).2.1
        rw [e] at this; cases this
        exact (I3.gh _ (List.mem_append_right _ hm)).1
      | ret v => exact kr _ _ hf
      | brk => exact hf.elim
      | cont => exact hf.elim
  · have hin : i = ps.length := by omega
    subst hin
    refine S.walks.done s' _ _ hst fun h' tk kp => ?_
    have kb : KeepBut It s'.heap h' := fun b o hb e => kp b o (by simpa using hb) e
    exact wpAny_execs_nil (k _ (I'.chg ho0 hd0 hB hγI kb))

/-- while. J i: the names' contents ahead of turn i; n turns. -/
theorem W.while_ {test : PySem.Expr} {body : List Stmt} {pos : Pos} (J : Nat → List (Str × Ct)) (n : Nat) (I : Inv c (J 0) γ s)
    (ht : ∀ i, i ≤ n → Tst c (J i) γ test (decide (i < n)))
    (hbody : ∀ i s', i < n → Inv c (J i) γ s' → W c body (fun f s'' => match f with | .next => Inv c (J (i + 1)) γ s'' | _ => False) no s')
    (k : ∀ s', Inv c (J n) γ s' → W c rest Q E s') : W c (.While test body [] pos :: rest) Q E s := by
  refine wpAny_execs_cons (wpAny_While (codeAny_whileLoop (fun m s' => ∃ i, m = n - i ∧ i ≤ n ∧ Inv c (J i) γ s') ?_ n ⟨0, rfl, Nat.zero_le _, I⟩))
  rintro m s' ⟨i, rfl, hi, I'⟩
  refine wpAny_mono (ht i hi s' I') (fun b s₂ ⟨e, q⟩ => ?_) fun _ _ x => x.elim
  subst q
  by_cases hlt : i < n
  · rw [if_pos (by simp [hlt])]
    refine wpAny_mono (hbody i s₂ hlt (I'.ext e)) (fun f s₃ hf => ?_) fun _ _ x => x.elim
    cases f with
    | next => exact ⟨n - (i + 1), by omega, i + 1, rfl, hlt, hf⟩
    | ret v => exact hf.elim
    | brk => exact hf.elim
    | cont => exact hf.elim
  · rw [if_neg (by simp [hlt])]
    have : i = n := by omega
    subst this
    exact wpAny_execs_nil (k _ (I'.ext e))
end
end Mine

namespace Mine
section
variable {c : Cx} {σ σ' : List (Str × Ct)} {γ : Gh} {s : Shared}

/-! ## comprehensions -/
/-- the tests of a clause -/
abbrev tests (ifs : List PySem.Expr) (env : Env) : Sem Bool := forIn ifs true fun c r => if r = true then do let ok ← isTrue c env (eval c env); pure (ForInStep.yield ok) else pure (ForInStep.yield r)
/-- one turn: what it adds -/
def Turn (c : Cx) (σ : List (Str × Ct)) (γ : Gh) (ifs : List PySem.Expr) (elt : PySem.Expr) (out : List Pt) : Prop :=
  ∃ b, (∀ s, Inv c σ γ s → wpAny c.M c.A (tests ifs c.env) (fun ok s' => Ext s s' ∧ ok = b) no s) ∧ ((b = false ∧ out = []) ∨ (b = true ∧ ∃ q, out = [q] ∧ Exp c σ γ elt (.p q)))
theorem Turn.one {elt : PySem.Expr} {q : Pt} (h : Exp c σ γ elt (.p q)) : Turn c σ γ [] elt [q] := ⟨true, fun s I => wpAny_tests_nil ⟨.rfl', rfl⟩, .inr ⟨rfl, q, rfl, h⟩⟩
theorem Turn.skip {elt t : PySem.Expr} (h : Tst c σ γ t false) : Turn c σ γ [t] elt [] := ⟨false, fun s I => wpAny_tests_one (h s I), .inl ⟨rfl, rfl⟩⟩
abbrev Cx.comp (c : Cx) (scope : Scope) (cl : List (Str × Addr)) (C : Addr) (B : Shared) : Cx := { c with env := compEnvC scope cl C c.env, B := B }

/-- what is asked of a comprehension's scope -/
structure Scp (c : Cx) (σ σf : List (Str × Ct)) (x : Str) (scope : Scope) (cl : List (Str × Addr)) : Prop where
  clos : closureFor scope c.env = pure cl
  cell : ∀ y ∈ scope.names, y.2 ≠ .cell
  kind : scope.kind = .function
  names : ∀ y ∈ scope.names, y.2 = .local → scope.names.lookup y.1 = some .local
  var : scope.names.lookup x = some .local
  cels : ∀ y b, cl.lookup y = some b → c.env.cells.lookup y = some b
  sub : ∀ p ∈ σf, σ.lookup p.1 = some p.2 ∧ c.env.kindOf p.1 = some .cell ∧ (cl.lookup p.1).isSome = true ∧ p.1 ≠ x ∧ ∀ C, (compEnvC scope cl C c.env).kindOf p.1 ≠ some .local

theorem Lst.other {h h' : Heap} {a b : Addr} {oa : Obj} {ps : List Pt} (x : Lst h b ps) (ha : h.get? a = some oa) (hl : ∀ vs n, oa.data ≠ .seq vs n) (k : KeepBut a h h') : Lst h' b ps :=
  x.but ha (.inr hl) k (by rintro rfl; obtain ⟨vs, ⟨n, e⟩, _⟩ := x; rw [ha] at e; cases e; exact hl _ _ rfl)

theorem comp_core {elt iter : PySem.Expr} {x : Str} {px : Pos} {ifs : List PySem.Expr} {scope : Scope} {cl : List (Str × Addr)} {pos : Pos} {σf : List (Str × Ct)} {ps : List Pt} {f : Pt → List Pt}
    {R : Addr → Prop} {It : Addr} {fr : List Addr} {P : Nat → Value → Prop} {St : Nat → Heap → Prop} {s₂ : Shared} {RR : Value → Addr → Result → Shared → Prop}
    (I : Inv c σ γ s) (e2 : Ext s s₂) (S : SrcAt c s s₂ (.ref It) ps R It fr P St) (sc : Scp c σ σf x scope cl) (hsz : ps.length ≤ sizeLine)
    (hturn : ∀ C B p γ', p ∈ ps → Turn (c.comp scope cl C B) ((x, .p p) :: σf) γ' ifs elt (f p))
    (hRR : ∀ D C s', Ext s s' → s.heap.get? D = none → s.heap.get? C = none → D ≠ C → (∃ m, s'.heap.Ns C m) → Lst s'.heap D (ps.flatMap f) → RR (.ref D) C (.ok .next) s') :
    wpAny c.M c.A (newList []) (fun acc s₃ => wpAny c.M c.A (newFunctionEnv scope c.env.globals cl [] c.env.qual none .none (some c.env)) (fun cenv s₄ =>
      codeAny c.M c.A (.compStart (.ListComp elt [⟨.Name x px, iter, ifs, 0⟩] scope pos) 0 (.ref It) acc { cenv with scope := relabel scope c.env }) (RR acc cenv.locals) s₄) no s₃) no s₂ := by
  refine wpAny_newObj_type (wpAny_newFunctionEnv sc.cell (by intro y hy; simp at hy) (fun h₁ hns₁ hsb₁ => ?_) sc.kind)
  dsimp only at hns₁ hsb₁ ⊢
  generalize hH2 : s₂.heap.push { cls := .type "list", dict := none, data := .seq ([] : List Value).toArray } = H2 at hns₁ hsb₁ ⊢
  have hC : H2.objs.size = s₂.heap.objs.size + 1 := by rw [← hH2, Heap.size_push]
  have hDC : s₂.heap.objs.size ≠ H2.objs.size := by rw [hC]; exact Nat.ne_of_lt (Nat.lt_succ_self _)
  have below : ∀ b, b < s₂.heap.objs.size → b ≠ H2.objs.size := fun b hb => by rw [hC]; exact Nat.ne_of_lt (Nat.lt_succ_of_lt hb)
  have old : KeepH s₂.heap h₁ := fun b o e => hsb₁.extBut b o (below b (Heap.lt_size e)) (Heap.get?_push_of_some _ (hH2 ▸ Heap.get?_push_of_some _ e))
  have fresh : ∀ a, s₂.heap.objs.size ≤ a → s₂.heap.get? a = none := fun a ha => Heap.get?_none_of_le ha
  have freshS : ∀ a, s₂.heap.objs.size ≤ a → s.heap.get? a = none := fun a ha => by
    cases hg : s.heap.get? a with
    | none => rfl
    | some o => have := e2.keep _ _ hg; rw [fresh a ha] at this; cases this
  have hD0 : Lst h₁ s₂.heap.objs.size [] := ⟨[], ⟨_, hsb₁.extBut _ _ hDC (Heap.get?_push_of_some _ (hH2 ▸ Heap.get?_push_size _ rfl))⟩, trivial⟩
  generalize hDg : s₂.heap.objs.size = D at *
  generalize hCg : H2.objs.size = C at *
  have hCs : s.heap.get? C = none := freshS C (by rw [hC]; exact Nat.le_succ _)
  have hDs : s.heap.get? D = none := freshS D (Nat.le_refl _)
  obtain ⟨o0, vs0, ho0, hd0⟩ := S.fields 0 _ S.start
  have hst₁ : St 0 h₁ := S.walks.frame _ _ _ S.start fun b _ o e => old b o e
  -- the comprehension's own context
  have mk : ∀ (γ' : Gh) (h' : Heap) (tk : Nat) (m : Str → Option Value), KeepH s.heap h' → h'.Ns C m → (∀ q ∈ γ'.objs, h'.get? q.1 = some q.2 ∧ Flat q.2.data) → KeepT γ'.tup h' → Inv (c.comp scope cl C s) σf γ' { s with heap := h', toks := tk } := by
    intro γ' h' tk m kp hn hg ht
    refine ⟨I.ambH, kp, rfl, ⟨?_, I.frm.glob, I.frm.blt, hCs, ⟨m, hn, fun y ct e hk => ?_⟩, fun y b e => ?_, fun y z b e1 e2 => I.frm.inj y z b (sc.cels _ _ e1) (sc.cels _ _ e2), fun y ct e hk => ?_⟩, hg, ht⟩
    · exact sc.kind
    · exact absurd hk ((sc.sub _ (lookup_mem e)).2.2.2.2 C)
    · obtain ⟨v, hv⟩ := I.frm.cel y b (sc.cels _ _ e); exact ⟨v, Heap.IsCell.keep hv kp⟩
    · obtain ⟨h1, h2, h3, _, _⟩ := sc.sub _ (lookup_mem e)
      obtain ⟨b, v, e1, e2, e3⟩ := I.frm.cv y ct h1 (.inl h2)
      obtain ⟨b', hb'⟩ := Option.isSome_iff_exists.mp h3
      have := sc.cels _ _ hb'
      rw [e1] at this; cases this
      exact ⟨b, v, hb', Heap.IsCell.keep e2 kp, e3.keep kp⟩
  have loop : ∀ s₃ : Shared, s₃ = { s₂ with heap := h₁, toks := s₂.toks + ([] : List (Str × Value)).length } →
      codeAny c.M c.A (.compLoop (.ListComp elt [⟨.Name x px, iter, ifs, 0⟩] scope pos) 0 (.ref It) (.ref D) (compEnvC scope cl C c.env)) (RR (.ref D) C) s₃ := by
    rintro s₃ rfl
    refine codeAny_compLoop_tests (fun n s' => ∃ i, n = ps.length + 1 - i ∧ i ≤ ps.length ∧ St i s'.heap ∧ KeepT s₂.heap s'.heap ∧ Ext s s' ∧ (∃ m, s'.heap.Ns C m) ∧ Lst s'.heap D ((ps.take i).flatMap f)) ?_ (ps.length + 1)
      ⟨0, by omega, by omega, hst₁, .of old, e2.trans (.heapToks old), ⟨_, hns₁⟩, by simpa using hD0⟩ (by intro v; rfl)
    rintro n s' ⟨i, rfl, hi, hst, kt, ex, ⟨m, hn⟩, hL⟩
    obtain ⟨o0, vs0, ho0, hd0⟩ := S.fields i _ hst
    have ns0 : ∀ vs n, o0.data ≠ .seq vs n := fun _ _ e => by rw [hd0] at e; cases e
    have hsNo : ∀ b o, s.heap.get? b = some o → b ≠ It := fun b o e q => by rw [q, S.new] at e; cases e
    by_cases hlt : i < ps.length
    · refine S.walks.item i s' _ _ hlt hst fun v h' tk hP hst' kp => ?_
      have kb : KeepBut It s'.heap h' := fun b o hb e => kp b o (by simpa using hb) e
      have kt' : KeepT s₂.heap h' := kt.trans (.but ho0 (.inr ns0) kb)
      obtain ⟨p, hp, hpi⟩ := S.item i v hP h' kt'
      have exk : KeepH s.heap h' := fun b o e => kb b o (hsNo b o e) (ex.keep b o e)
      have hn' : h'.Ns C m := by
        obtain ⟨o, es, ep, ho, hdt, r⟩ := hn
        exact ⟨o, es, ep, kb _ o (by intro q; rw [q, ho0] at ho; cases ho; rw [hd0] at hdt; cases hdt) ho, hdt, r⟩
      have hL' : Lst h' D ((ps.take i).flatMap f) := hL.other ho0 ns0 kb
      obtain ⟨o1, vs1, ho1, hd1⟩ := S.fields (i + 1) _ hst'
      have aux : ∀ l : List Addr, (∀ b ∈ l, ∃ o, h'.get? b = some o ∧ Flat o.data) → ∃ γ₁ : List (Addr × Obj), (∀ b ∈ l, ∃ o, (b, o) ∈ γ₁) ∧ ∀ q ∈ γ₁, q.1 ∈ l ∧ h'.get? q.1 = some q.2 ∧ Flat q.2.data := by
        intro l
        induction l with
        | nil => intro _; exact ⟨[], by simp, by simp⟩
        | cons b l ih =>
          intro hl
          obtain ⟨g, g1, g2⟩ := ih fun b' hb' => hl b' (.tail _ hb')
          obtain ⟨o, ho, hf⟩ := hl b (.head _)
          refine ⟨(b, o) :: g, fun b' hb' => ?_, fun q hq => ?_⟩
          · rcases List.mem_cons.mp hb' with rfl | hb'
            · exact ⟨o, .head _⟩
            · obtain ⟨o', ho'⟩ := g1 b' hb'; exact ⟨o', .tail _ ho'⟩
          · rcases List.mem_cons.mp hq with rfl | hq
            · exact ⟨.head _, ho, hf⟩
            · exact ⟨.tail _ (g2 q hq).1, (g2 q hq).2⟩
      obtain ⟨γ₁, g1, g2⟩ := aux (D :: It :: fr) (fun b hb => by
        rcases List.mem_cons.mp hb with rfl | hb
        · obtain ⟨vs, ⟨n, e⟩, _⟩ := hL'; exact ⟨_, e, .inr ⟨_, _, rfl⟩⟩
        · rcases List.mem_cons.mp hb with rfl | hb
          · exact ⟨o1, ho1, .inl ⟨_, hd1⟩⟩
          · exact S.restNow (i + 1) h' hst' b hb)
      have I1 := mk ⟨γ₁, h'⟩ h' tk m exk hn' (fun q hq => (g2 q hq).2) .rfl'
      have hrest : ({ s' with heap := h', toks := tk } : Shared) = { s with heap := h', toks := tk } := by rw [ex.rest]
      rw [hrest]
      refine wpAny_assign_Name (Inv.store (c := c.comp scope cl C s) I1 (ct := .p p) hpi (.inl (lookup_relabel_local sc.var)) fun s₅ I5 => ?_)
      have hpm : p ∈ ps := List.mem_of_getElem? hp
      obtain ⟨b, hb, hout⟩ := hturn C s p ⟨γ₁, h'⟩ hpm
      refine wpAny_mono (hb s₅ I5) (fun ok s₆ ⟨e6, hok⟩ => ?_) fun _ _ x => x.elim
      subst hok
      have I6 := I5.ext e6
      -- what stands behind the turn
      have stand : ∀ {s₇ : Shared} (k7 : KeepBut D s₆.heap s₇.heap), St (i + 1) s₇.heap := fun {s₇} k7 => S.walks.frame _ _ _ hst' fun b hb o e => by
        obtain ⟨o', hm⟩ := g1 b (.tail _ hb)
        have := (g2 _ hm).2.1
        rw [e] at this; cases this
        refine k7 b _ (fun q => ?_) (I6.gh _ hm).1
        subst q
        -- D is not the iterator nor what it walks
        rcases List.mem_cons.mp hb with q | q
        · obtain ⟨o2, _, h2, _⟩ := S.fields 0 _ S.start
          rw [← q] at h2
          rw [fresh b (Nat.le_refl _)] at h2; cases h2
        · obtain ⟨_, o2, h2, _, _⟩ := S.rest b q
          rw [fresh b (Nat.le_refl _)] at h2; cases h2
      have hL6 : Lst s₆.heap D ((ps.take i).flatMap f) := by
        obtain ⟨vs, ⟨n, e⟩, q⟩ := hL'
        obtain ⟨o', hm⟩ := g1 D (.head _)
        have := (g2 _ hm).2.1
        rw [e] at this; cases this
        exact ⟨vs, ⟨n, (I6.gh _ hm).1⟩, q.mono fun _ _ y => y.keepT I6.kt⟩
      have nm6 : ∃ m, s₆.heap.Ns C m := by obtain ⟨m, h, _⟩ := I6.frm.loc; exact ⟨m, h⟩
      have htake : ps.take (i + 1) = ps.take i ++ [p] := by rw [List.take_add_one, hp]; rfl
      have ex6 : Ext s s₆ := I6.toExt
      rcases hout with ⟨rfl, ho⟩ | ⟨rfl, q0, ho, hE⟩
      · rw [if_neg (by decide)]
        refine ⟨ps.length + 1 - (i + 1), by omega, i + 1, rfl, hlt, stand (fun _ _ _ e => e), kt'.trans I6.kt, ex6, nm6, ?_⟩
        rw [htake, List.flatMap_append, show [p].flatMap f = [] by simp [ho], List.append_nil]
        exact hL6
      · rw [if_pos rfl]
        refine wpAny_mono (hE s₆ I6) (fun y s₇ ⟨e7, q7⟩ => ?_) fun _ _ x => x.elim
        have hL7 := hL6.keep e7.keep
        obtain ⟨vs, ⟨n7, e⟩, q⟩ := hL7
        have hlen : vs.length ≤ ps.length := by
          rw [← q.length]
          have : ∀ l : List Pt, (∀ p ∈ l, p ∈ ps) → (l.flatMap f).length ≤ l.length := by
            intro l
            induction l with
            | nil => intro _; simp
            | cons a l ih =>
              intro hl
              obtain ⟨_, _, ho⟩ := hturn C s a ⟨γ₁, h'⟩ (hl a (.head _))
              have h1 : (f a).length ≤ 1 := by rcases ho with ⟨_, ho⟩ | ⟨_, _, ho, _⟩ <;> simp [ho]
              have h2 := ih fun p hp => hl p (.tail _ hp)
              simp only [List.flatMap_cons, List.length_append, List.length_cons]
              omega
          have h2 := this (ps.take i) fun p hp => List.mem_of_mem_take hp
          have h3 : (ps.take i).length ≤ ps.length := by simp; omega
          omega
        refine wpAny_list_append_plain ⟨n7, e⟩ (fun h₈ hp8 hs8 => ?_) (by simp only [List.size_toArray]; omega)
        have k8 : KeepBut D s₇.heap h₈ := fun b o hb e => (hs8.2 b hb).trans e
        have nt : NoTup ({ cls := .type "list", data := .seq vs.toArray n7 } : Obj) := .inl (by simp)
        refine ⟨ps.length + 1 - (i + 1), by omega, i + 1, rfl, hlt, stand (s₇ := { s₇ with heap := h₈ }) (fun b o hb e' => k8 b o hb (e7.keep b o e')), ((kt'.trans I6.kt).trans (.of e7.keep)).trans (.but e nt k8), ?_, ?_, ?_⟩
        · refine ⟨fun b o e' => k8 b o (by rintro rfl; rw [hDs] at e'; cases e') (e7.keep b o (ex6.keep b o e')), ?_⟩
          have := (ex6.trans e7).rest
          show ({ s₇ with heap := h₈ } : Shared) = _
          rw [this]
        · obtain ⟨m, o, es, ep, hoC, hdt, r⟩ := nm6
          exact ⟨m, o, es, ep, k8 C o (Ne.symm hDC) (e7.keep _ _ hoC), hdt, r⟩
        · refine ⟨vs ++ [y], ?_, ?_⟩
          · simpa using hp8
          · rw [htake, List.flatMap_append, show [p].flatMap f = [q0] by simp [ho]]
            exact (q.mono fun _ _ z => z.but e nt k8).append ⟨Pt.Is.but (p := q0) q7 e nt k8, trivial⟩
    · have hin : i = ps.length := by omega
      subst hin
      refine S.walks.done s' _ _ hst fun h' tk kp => ?_
      have kb : KeepBut It s'.heap h' := fun b o hb e => kp b o (by simpa using hb) e
      refine hRR D C _ ⟨fun b o e => kb b o (hsNo b o e) (ex.keep b o e), by rw [ex.rest]⟩ hDs hCs hDC ?_ ?_
      · obtain ⟨o, es, ep, ho, hdt, r⟩ := hn
        exact ⟨m, o, es, ep, kb _ o (by intro q; rw [q, ho0] at ho; cases ho; rw [hd0] at hdt; cases hdt) ho, hdt, r⟩
      · have := hL.other ho0 ns0 kb
        rwa [List.take_length] at this
  exact codeAny_compStart_list (loop _ rfl) (S.walks.self 0 _ _ _ hst₁ (loop _ rfl))

theorem ExpF.comp {elt iter : PySem.Expr} {x : Str} {px : Pos} {ifs : List PySem.Expr} {scope : Scope} {pos : Pos} {ps : List Pt} {R : Shared → Addr → Prop} (cl : List (Str × Addr)) (σf : List (Str × Ct)) (f : Pt → List Pt)
    (hsrc : Src c σ γ iter ps R) (sc : Scp c σ σf x scope cl) (hsz : ps.length ≤ sizeLine) (hturn : ∀ C B p γ', p ∈ ps → Turn (c.comp scope cl C B) ((x, .p p) :: σf) γ' ifs elt (f p))
    (hs : ∀ x, foldedSetIterable iter c.env x = pure x := by intro _; rfl) : ExpF c σ γ (.ListComp elt [⟨.Name x px, iter, ifs, 0⟩] scope pos) (ps.flatMap f) := fun s I => by
  rw [eval_ListComp]
  refine wpAny_comprehension_free (use := none) rfl hs sc.clos sc.kind sc.names (wpAny_mono (hsrc s I) (fun xv s₁ h₁ => wpAny_mono h₁ (fun it s₂ ⟨e2, It, fr, P, St, S⟩ => ?_) fun _ _ e => e) fun _ _ e => e)
  obtain rfl := S.ref
  refine comp_core (RR := fun acc C => compPost c.M c.A no none (fun v s' => Ext s s' ∧ ∃ a, v = .ref a ∧ s.heap.get? a = none ∧ Lst s'.heap a (ps.flatMap f)) acc C) I e2 S sc hsz hturn fun D C s' ex hD hC hDC ⟨m, hn⟩ hL => ?_
  refine ⟨m, hn, fun h' hs' => ?_⟩
  obtain ⟨o, es, ep, ho, hdt, _⟩ := hn
  have kb : KeepBut C s'.heap h' := fun b o hb e => (hs'.2 b hb).trans e
  exact ⟨⟨fun b o e => kb b o (by rintro rfl; rw [hC] at e; cases e) (ex.keep b o e), by rw [ex.rest]⟩, D, rfl, hD, hL.other ho (fun _ _ e => by rw [hdt] at e; cases e) kb⟩
variable {rest : List Stmt} {Q : Flow → Shared → Prop} {E : Value → Shared → Prop}
/-- y = [ .. ], stored ahead of the names' going -/
theorem W.assignComp {elt iter : PySem.Expr} {x y : Str} {px py pos spos : Pos} {ifs : List PySem.Expr} {scope : Scope} {ps : List Pt} {R : Shared → Addr → Prop} (cl : List (Str × Addr)) (σf : List (Str × Ct)) (f : Pt → List Pt)
    (I : Inv c σ γ s) (hsrc : Src c σ γ iter ps R) (sc : Scp c σ σf x scope cl) (hsz : ps.length ≤ sizeLine) (hy : c.env.kindOf y = some .local)
    (hsw : swapsWith (.ListComp elt [⟨.Name x px, iter, ifs, 0⟩] scope pos) (some (.Name y py)) spos.line c.env = pure true)
    (hturn : ∀ C B p γ', p ∈ ps → Turn (c.comp scope cl C B) ((x, .p p) :: σf) γ' ifs elt (f p))
    (k : ∀ a s', s.heap.get? a = none → Inv c ((y, .l a (ps.flatMap f)) :: σ) γ s' → W c rest Q E s')
    (hs : ∀ x, foldedSetIterable iter c.env x = pure x := by intro _; rfl) : W c (.Assign [.Name y py] (.ListComp elt [⟨.Name x px, iter, ifs, 0⟩] scope pos) spos :: rest) Q E s := by
  refine wpAny_execs_cons ?_
  rw [exec_Assign_Name_used _ _ _ _ hsw]
  refine wpAny_bind (wpAny_standAt (wpAny_bind ?_))
  show wpAny _ c.A (do let _ ← comprehension (.ListComp elt [⟨.Name x px, iter, ifs, 0⟩] scope pos) scope c.env _ (newList []) false (eval iter c.env) (some (PySem.assign (.Name y py) c.env))) _ _ s
  refine wpAny_bind (wpAny_mono (wpAny_comprehension_free (E := no) (use := some (PySem.assign (.Name y py) c.env)) (Q := fun _ s' => W c rest Q E s') rfl hs sc.clos sc.kind sc.names
    (wpAny_mono (hsrc s I) (fun xv s₁ h₁ => wpAny_mono h₁ (fun it s₂ ⟨e2, It, fr, P, St, S⟩ => ?_) fun _ _ e => e) fun _ _ e => e)) (fun _ s' hq => wpAny_pure (wpAny_pure hq)) fun _ _ e => e.elim)
  obtain rfl := S.ref
  refine comp_core (RR := fun acc C => compPost c.M c.A no (some (PySem.assign (.Name y py) c.env)) (fun _ s' => W c rest Q E s') acc C) I e2 S sc hsz hturn fun D C s' ex hD hC hDC ⟨m, hn⟩ hL => ?_
  show wpAny _ c.A (PySem.assign (.Name y py) c.env (.ref D)) _ _ _
  obtain ⟨o, es, ep, ho, hdt, hr⟩ := hn
  -- the comprehension's own names' object stands beside
  have hgh : Inv c σ γ s' := I.ext ex
  refine wpAny_assign_Name ?_
  obtain ⟨m0, hn0, hm0⟩ := hgh.frm.loc
  have hLC : c.env.locals ≠ C := by
    intro q
    obtain ⟨m1, hn1, _⟩ := I.frm.loc
    obtain ⟨o1, _, _, h1, _⟩ := hn1
    rw [q, hC] at h1; cases h1
  -- store, then the names go
  refine Inv.storeLoc' hgh (ct := .l D (ps.flatMap f)) ⟨rfl, hL⟩ hy fun s'' I3 kb => ?_
  have h3 : s''.heap.get? C = some o := kb C o (Ne.symm hLC) ho
  refine ⟨m, ⟨o, es, ep, h3, hdt, hr⟩, fun h' hs' => k D _ hD ?_⟩
  have := I3.chg' (h' := h') (tk := s''.toks) h3 (fun _ _ e => by rw [hdt] at e; cases e) (fun _ e => by rw [hdt] at e; cases e) (Ne.symm hLC) (by
    cases hg : c.B.heap.get? C with
    | none => rfl
    | some o => have := I.keep _ _ hg; rw [hC] at this; cases this) (fun p hp q => by have := (I.gh p hp).1; rw [q, hC] at this; cases this) (fun b o hb e => (hs'.2 b hb).trans e)
  exact this
end
end Mine

namespace Mine
section
variable {c : Cx} {σ σ' : List (Str × Ct)} {γ : Gh} {s : Shared} {rest : List Stmt} {Q : Flow → Shared → Prop} {E : Value → Shared → Prop}

/-! ## calls of the text's own functions -/
structure AOk (n : Nat) (A : Around) : Prop where
  handled : A.handled = none
  depth : A.depth + n < recursionLimit
  units : A.units + 10 * n < 9000
theorem AOk.deeper {n : Nat} {A : Around} {env : Env} (h : AOk (n + 1) A) : AOk n (A.deeper env) :=
  ⟨h.handled, by have := h.depth; show A.depth + 1 + n < _; omega, by have := h.units; show A.units + 3 + 10 * n < _; omega⟩
theorem AOk.le {n m : Nat} {A : Around} (h : AOk n A) (hm : m ≤ n) : AOk m A := ⟨h.handled, by have := h.depth; omega, by have := h.units; omega⟩

/-- the value, a list being new -/
def Vl.New (s s' : Shared) (x : Vl) (v : Value) : Prop := match x with
  | .p q => q.Is s'.heap v
  | .l ps => ∃ a, v = .ref a ∧ s.heap.get? a = none ∧ Lst s'.heap a ps
theorem Vl.New.is {s s' : Shared} {x : Vl} {v : Value} (h : x.New s s' v) : x.Is s'.heap v := by
  cases x with
  | p q => exact h
  | l ps => obtain ⟨a, e, _, y⟩ := h; exact ⟨a, e, y⟩
theorem Vl.New.from {s₀ s s' : Shared} {x : Vl} {v : Value} (h : x.New s s' v) (k : KeepH s₀.heap s.heap) : x.New s₀ s' v := by
  cases x with
  | p q => exact h
  | l ps =>
    obtain ⟨a, e, h1, y⟩ := h
    refine ⟨a, e, ?_, y⟩
    cases hg : s₀.heap.get? a with
    | none => rfl
    | some o => have := k _ _ hg; rw [h1] at this; cases this
def Fun (prog : Program) (w : World) (K : Frag) (n : Nat) (f : Addr) (xs : List Vl) (z : Vl) : Prop :=
  ∀ A s vs, AOk n A → Amb K s.heap → All2 (fun x v => Vl.Is s.heap x v) xs vs → codeAny (model prog w) A (.call (.ref f) ⟨vs, []⟩) (fun r s' => ∃ v, r = .ok (.ret v) ∧ Ext s s' ∧ z.New s s' v) s

/-- the object at f is a def -/
def isDef (K : Frag) (f : Addr) : Bool := match K.lookup f with
  | some ⟨_, _, .func _, _⟩ => true
  | _ => false
theorem isDef_of {K : Frag} {f : Addr} {h : Heap} (X : K.In h) (e : isDef K f = true) : ∃ o fd, h.get? f = some o ∧ o.data = .func fd := by
  unfold isDef at e
  split at e
  · rename_i q; exact ⟨_, _, X _ _ q, rfl⟩
  · cases e
theorem call_raw {f : Addr} {nm : Str} {a : PySem.Expr} {args : List PySem.Expr} {np pos : Pos} {xs : List Vl} {Q : Value → Shared → Prop} {E : Value → Shared → Prop} (I : Inv c σ γ s) (hg : nsIn c.K mainGlobals nm = some (some (.ref f))) (hk : c.env.kindOf nm = some .globalImplicit)
    (hfn : isDef c.K f = true) (hargs : ExpAll c σ γ (a :: args) xs)
    (h : ∀ vs s₁, Ext s s₁ → All2 (fun x v => Vl.Is s₁.heap x v) xs vs → wpAny c.M c.A (call (.ref f) vs []) Q E s₁)
    (hd : (nm == ("__debug__" : Str)) = false := by decide) : wpAny c.M c.A (eval (.Call (.Name nm np) (a :: args) [] pos) c.env) Q E s := by
  obtain ⟨o, fd, hof, hfd⟩ := isDef_of I.ambH.inK hfn
  refine wpAny_Call_NameR (nameK I hg hk (callWith_function (o := o) (fd := fd) ?_) hd)
  have h0 := hargs.spl (pos := pos) s I
  match xs, hargs with
  | x :: xs, hargs =>
    rw [starEach_cons hargs.1.2, backTo_cons] at h0 ⊢
    refine evalArgs_plain (wpAny_mono h0 (fun vs s₁ ⟨e1, q⟩ => ⟨⟨e1.keep _ _ hof, hfd⟩, h vs s₁ e1 q⟩) fun _ _ x => x.elim)
theorem call_fun {n : Nat} {f : Addr} {nm : Str} {a : PySem.Expr} {args : List PySem.Expr} {np pos : Pos} {xs : List Vl} {z : Vl} (hF : Fun c.prog c.w c.K n f xs z) (hA : AOk n c.A)
    (hg : nsIn c.K mainGlobals nm = some (some (.ref f))) (hk : c.env.kindOf nm = some .globalImplicit) (hfn : isDef c.K f = true) (hargs : ExpAll c σ γ (a :: args) xs) (I : Inv c σ γ s)
    (hd : (nm == ("__debug__" : Str)) = false := by decide) : wpAny c.M c.A (eval (.Call (.Name nm np) (a :: args) [] pos) c.env) (fun v s' => Ext s s' ∧ z.New s s' v) no s :=
  call_raw I hg hk hfn hargs (fun vs s₁ e1 q => wpAny_call (codeAny_mono (hF c.A s₁ vs hA (I.ext e1).ambH q) fun r s' ⟨v, hr, e2, y⟩ => by
    subst hr; exact ⟨e1.trans e2, y.from e1.keep⟩)) hd
theorem Exp.call {n : Nat} {f : Addr} {nm : Str} {a : PySem.Expr} {args : List PySem.Expr} {np pos : Pos} {xs : List Vl} {z : Vl} (hF : Fun c.prog c.w c.K n f xs z) (hA : AOk n c.A)
    (hg : nsIn c.K mainGlobals nm = some (some (.ref f))) (hk : c.env.kindOf nm = some .globalImplicit) (hfn : isDef c.K f = true) (hargs : ExpAll c σ γ (a :: args) xs)
    (hd : (nm == ("__debug__" : Str)) = false := by decide) : Exp c σ γ (.Call (.Name nm np) (a :: args) [] pos) z := fun s I =>
  wpAny_mono (call_fun hF hA hg hk hfn hargs I hd) (fun v s' ⟨e1, y⟩ => ⟨e1, y.is⟩) fun _ _ x => x
theorem ExpF.call {n : Nat} {f : Addr} {nm : Str} {a : PySem.Expr} {args : List PySem.Expr} {np pos : Pos} {xs : List Vl} {ps : List Pt} (hF : Fun c.prog c.w c.K n f xs (.l ps)) (hA : AOk n c.A)
    (hg : nsIn c.K mainGlobals nm = some (some (.ref f))) (hk : c.env.kindOf nm = some .globalImplicit) (hfn : isDef c.K f = true) (hargs : ExpAll c σ γ (a :: args) xs)
    (hd : (nm == ("__debug__" : Str)) = false := by decide) : ExpF c σ γ (.Call (.Name nm np) (a :: args) [] pos) ps := fun s I => call_fun hF hA hg hk hfn hargs I hd

abbrev g0 : Gh := ⟨[], {}⟩
theorem keepT0 {h : Heap} : KeepT ({} : Heap) h := fun a vs ⟨o, ho, _⟩ => by cases ho
theorem all2_lookup {P : Ct → Value → Prop} {x : Str} {ct : Ct} : ∀ {σ : List (Str × Ct)} {b : List (Str × Value)}, All2 (fun (p : Str × Ct) (q : Str × Value) => p.1 = q.1 ∧ P p.2 q.2) σ b → σ.lookup x = some ct → ∃ v, b.lookup x = some v ∧ P ct v
  | [], [], _, h => by cases h
  | (y, d) :: σ, (y', v) :: b, ⟨⟨h1, h2⟩, h3⟩, h => by
    cases h1
    rw [List.lookup_cons] at h ⊢
    cases hy : x == y with
    | true => rw [hy] at h; cases h; exact ⟨v, rfl, h2⟩
    | false => rw [hy] at h; exact all2_lookup h3 h
  | [], _ :: _, h, _ => h.elim
  | _ :: _, [], h, _ => h.elim

/-- the context of a called def without cells -/
abbrev inDef (prog : Program) (w : World) (K : Frag) (A : Around) (s : Shared) (qual : Str) (scope : Scope) (f : Addr) (cdv : Value) : Cx :=
  ⟨prog, w, K, A.deeper (envOf qual scope s.heap.objs.size f cdv), s, envOf qual scope s.heap.objs.size f cdv⟩
theorem enter {prog : Program} {w : World} {K : Frag} {A : Around} {R : Result → Shared → Prop} {name qual : Str} {params : Arguments} {body : List Stmt} {scope : Scope} {dV kV doc pm cdv ct oc : Value} {an od : Option Addr} {osl : Array (Option Value)}
    {f : Addr} {vs : List Value} {binds : List (Str × Value)} {σ₀ : List (Str × Ct)}
    (ho : K.lookup f = some ⟨oc, od, .func (fnOf name qual params body scope dV kV doc pm an cdv ct), osl⟩) (hcd : codeIn K cdv qual = true) (hA : A.depth < recursionLimit) (amb : Amb K s.heap)
    (hb : bindArgs (fnOf name qual params body scope dV kV doc pm an cdv ct) ⟨vs, []⟩ = pure binds) (hloc : ∀ y ∈ binds, scope.names.lookup y.1 = some .local)
    (hσ : All2 (fun (p : Str × Ct) (q : Str × Value) => p.1 = q.1 ∧ p.2.Is s.heap q.2) σ₀ binds.reverse)
    (h : ∀ s₁, Inv (inDef prog w K A s qual scope f cdv) σ₀ g0 s₁ →
      W (inDef prog w K A s qual scope f cdv) body (fun fl s' => R (.ok (.ret (match fl with | .ret v => v | _ => .none))) s')
        (fun e s' => wpAny (model prog w) (A.deeper (envOf qual scope s.heap.objs.size f cdv)) (leaving (envOf qual scope s.heap.objs.size f cdv) e) (fun _ s'' => R (.error e) s'') (fun e' s'' => R (.error e') s'') s') s₁)
    (hco : scope.isCoroutine = false := by rfl) (hgen : scope.isGenerator = false := by rfl) (hk : scope.kind = .function := by rfl)
    (hcell : ∀ x ∈ scope.names, x.2 ≠ .cell := by decide) : codeAny (model prog w) A (.call (.ref f) ⟨vs, []⟩) R s := by
  obtain ⟨p, l, mg, mb, T⟩ := amb.top
  refine codeAny_call_def (fd := fnOf name qual params body scope dV kV doc pm an cdv ct) (body := body) (binds := binds) hA (amb.inK _ _ ho) rfl T.nolimit (codeRec_of amb.inK hcd) rfl (BindsTo.of_eq hb) hcell hloc (fun h₁ hns hk₁ => ?_) hco hgen hk
  refine h _ ⟨amb, hk₁, rfl, ⟨hk, rfl, rfl, Heap.get?_none_of_le (Nat.le_refl _), ⟨_, hns, fun x ct e _ => ?_⟩, fun x c e => (by cases e), fun x y c e => (by cases e), fun x ct e hkx => ?_⟩, fun q hq => (by cases hq), keepT0⟩
  · obtain ⟨v, h1, h2⟩ := all2_lookup (P := fun ct v => Ct.Is s.heap ct v) hσ e
    exact ⟨v, h1, h2.keep hk₁⟩
  · exfalso
    obtain ⟨v, h1, h2⟩ := all2_lookup (P := fun ct v => Ct.Is s.heap ct v) hσ e
    have hm : (x, v) ∈ binds.reverse := by
      have : ∀ l : List (Str × Value), l.lookup x = some v → (x, v) ∈ l := by
        intro l
        induction l with
        | nil => intro h; cases h
        | cons q r ih =>
          intro h
          obtain ⟨y, d⟩ := q
          rw [List.lookup_cons] at h
          cases hy : x == y with
          | true => rw [hy] at h; cases h; rw [beq_iff_eq.mp hy]; exact .head _
          | false => rw [hy] at h; exact .tail _ (ih h)
      exact this _ h1
    have := hloc _ (List.mem_reverse.mp hm)
    have e2 : (envOf qual scope s.heap.objs.size f cdv).kindOf x = some .local := this
    rcases hkx with q | q <;> (rw [e2] at q; cases q)
/-- a def that gives its value, whatever its frame -/
theorem ret_of {s s' : Shared} {z : Vl} {fl : Flow} {R : Result → Shared → Prop} (h : ∃ v, fl = .ret v ∧ Ext s s' ∧ z.New s s' v) :
    (fun r s' => ∃ v, r = Except.ok (Flow.ret v) ∧ Ext s s' ∧ z.New s s' v) (Except.ok (Flow.ret (match fl with | .ret v => v | _ => .none)) : Result) s' := by
  obtain ⟨v, rfl, h⟩ := h
  exact ⟨v, rfl, h⟩
end
end Mine

namespace Mine
section
variable {c : Cx} {σ σ' : List (Str × Ct)} {γ : Gh} {s : Shared} {rest : List Stmt} {Q : Flow → Shared → Prop} {E : Value → Shared → Prop}

abbrev Seen (c : Cx) (x : Str) : Prop := (c.env.kindOf x == some .local || c.env.kindOf x == some .cell || c.env.kindOf x == some .free) = true
theorem var_raw {x : Str} {pos : Pos} {ct : Ct} {Q : Value → Shared → Prop} {E : Value → Shared → Prop} (I : Inv c σ γ s) (h : σ.lookup x = some ct) (hk : Seen c x) (k : ∀ v, ct.Is s.heap v → Q v s)
    (hd : (x == ("__debug__" : Str)) = false := by decide) (hcd : (x == ("__classdict__" : Str)) = false := by decide) : wpAny c.M c.A (eval (.Name x pos) c.env) Q E s := by
  have hk' : c.env.kindOf x = some .local ∨ c.env.kindOf x = some .cell ∨ c.env.kindOf x = some .free := by
    simp only [Seen, Bool.or_eq_true, beq_iff_eq] at hk
    rcases hk with (h1 | h1) | h1 <;> simp [h1]
  rcases hk' with hk | hk | hk
  · obtain ⟨m, hn, hm⟩ := I.frm.loc
    obtain ⟨v, hv, y⟩ := hm x ct h hk
    exact wpAny_Name (wpAny_loadName_local I.frm.kind hk hn hv (k v y)) hd
  · obtain ⟨a, v, e1, e2, e3⟩ := I.frm.cv x ct h (.inl hk)
    exact wpAny_Name (wpAny_loadName_cell I.frm.kind hk e1 e2 (k v e3)) hd
  · obtain ⟨a, v, e1, e2, e3⟩ := I.frm.cv x ct h (.inr hk)
    exact wpAny_Name (wpAny_loadName_free I.frm.kind hk e1 e2 (k v e3) hcd) hd

/-! ## methods of built-in types -/
/-- o.name(e), the built-in then called upon both values -/
theorem meth1_raw {o e : PySem.Expr} {name : Str} {apos pos : Pos} {T id : String} {Q : Value → Shared → Prop} {E : Value → Shared → Prop}
    (pa : PlainAttrs T) (slot : Slot T name id) (hty : typeOf (.builtin id) = pure (.type "method_descriptor"))
    (h : wpAny c.M c.A (eval o c.env) (fun ov s₁ => s₁.TypeIs ov T ∧ (∀ a, ov = .ref a → ∃ ob, s₁.heap.get? a = some ob ∧ ob.dict = none) ∧ wpAny c.M c.A (eval e c.env) (fun v s₂ => wpAny c.M c.A (call (.builtin id) [ov, v]) Q E s₂) E s₁) E s)
    (hs : isStarred e = false := by rfl) (hbase : attributeBase o name c.env (eval o c.env) = eval o c.env := by rfl) (hline : (apos.endLine == pos.line) = true := by rfl) :
    wpAny c.M c.A (eval (.Call (.Attribute o name apos) [e] [] pos) c.env) Q E s := by
  refine wpAny_Call_method hbase (by rw [starEach_cons hs]; rfl) hline pa slot hty (wpAny_mono h (fun ov s₁ ⟨h1, h2, h3⟩ => ⟨h1, h2, ?_⟩) fun _ _ x => x)
  rw [starEach_cons hs]
  exact callWith_builtin rfl (evalArgs_plain (spliced_cons (wpAny_mono h3 (fun v s₂ h4 => spliced_nil h4) fun _ _ x => x)))

/-! lists change: append, extend -/
theorem Inv.list {x : Str} {a : Addr} {ps : List Pt} (I : Inv c σ γ s) (hx : σ.lookup x = some (.l a ps)) (hk : Seen c x) : Lst s.heap a ps := by
  have hk' : c.env.kindOf x = some .local ∨ c.env.kindOf x = some .cell ∨ c.env.kindOf x = some .free := by
    simp only [Seen, Bool.or_eq_true, beq_iff_eq] at hk
    rcases hk with (h1 | h1) | h1 <;> simp [h1]
  rcases hk' with hk | hk | hk
  · obtain ⟨m, hn, hm⟩ := I.frm.loc
    obtain ⟨v, hv, y⟩ := hm x _ hx hk
    exact y.2
  · obtain ⟨_, v, e1, e2, e3⟩ := I.frm.cv x _ hx (.inl hk)
    exact e3.2
  · obtain ⟨_, v, e1, e2, e3⟩ := I.frm.cv x _ hx (.inr hk)
    exact e3.2
theorem Lst.typeIs {a : Addr} {ps : List Pt} (h : Lst s.heap a ps) : s.TypeIs (.ref a) "list" := by obtain ⟨vs, ⟨n, e⟩, _⟩ := h; exact ⟨_, e, rfl⟩
theorem Lst.noDict {a b : Addr} {ps : List Pt} (h : Lst s.heap a ps) (e : Value.ref a = Value.ref b) : ∃ ob, s.heap.get? b = some ob ∧ ob.dict = none := by
  cases e; obtain ⟨vs, ⟨n, e⟩, _⟩ := h; exact ⟨_, e, rfl⟩

theorem W.append {x : Str} {e : PySem.Expr} {px apos pos spos : Pos} {a : Addr} {ps : List Pt} {p : Pt} (I : Inv c σ γ s) (hx : σ.lookup x = some (.l a ps)) (hk : Seen c x)
    (he : Exp c σ γ e (.p p)) (hB : c.B.heap.get? a = none) (hγ : ∀ q ∈ γ.objs, q.1 ≠ a) (hsz : ps.length ≤ 2 ^ 20) (k : ∀ s', Inv c (updL a (ps ++ [p]) σ) γ s' → W c rest Q E s')
    (hs : isStarred e = false := by rfl) (hline : (apos.endLine == pos.line) = true := by rfl) (hi : interactive c.env = false := by rfl)
    (hd : (x == ("__debug__" : Str)) = false := by decide) (hcd : (x == ("__classdict__" : Str)) = false := by decide) :
    W c (.Expr (.Call (.Attribute (.Name x px) "append" apos) [e] [] pos) spos :: rest) Q E s := by
  refine wpAny_execs_cons (wpAny_Expr_any ?_ hi)
  refine meth1_raw (c := c) F.plainAttrs_list F.slot_list_append F.type_list_append (var_raw I hx hk (fun v q => ?_) hd hcd) hs rfl hline
  obtain ⟨rfl, hL⟩ := q
  refine ⟨hL.typeIs, fun b e => hL.noDict e, wpAny_mono (he s I) (fun v s₁ ⟨e1, q⟩ => ?_) fun _ _ x => x.elim⟩
  have hL1 := hL.keep e1.keep
  obtain ⟨vs, hpl, qs⟩ := id hL1
  obtain ⟨n, e⟩ := id hpl
  have hlen := qs.length
  refine wpAny_list_append_plain hpl (fun h' hp hsb => k _ ?_) (by simp only [List.size_toArray]; unfold sizeLine; omega)
  have kb : KeepBut a s₁.heap h' := fun b o hb e => (hsb.2 b hb).trans e
  have nt : NoTup ({ cls := .type "list", data := .seq vs.toArray n } : Obj) := .inl (by simp)
  exact (I.ext e1).lst (tk := s₁.toks) hL1 hB hγ kb ⟨vs ++ [v], by simpa using hp, (qs.mono fun _ _ z => z.but e nt kb).append ⟨Pt.Is.but (p := p) q e nt kb, trivial⟩⟩

/-- x.extend(e), e a list that is not x's own -/
theorem extend_raw {x : Str} {e : PySem.Expr} {px apos pos : Pos} {a : Addr} {ps qs : List Pt} {Q : Value → Shared → Prop} {E : Value → Shared → Prop} (I : Inv c σ γ s) (hx : σ.lookup x = some (.l a ps)) (hk : Seen c x)
    (he : wpAny c.M c.A (eval e c.env) (fun v s₁ => Inv c σ γ s₁ ∧ ∃ b, v = .ref b ∧ b ≠ a ∧ Lst s₁.heap b qs) E s)
    (hB : c.B.heap.get? a = none) (hγ : ∀ q ∈ γ.objs, q.1 ≠ a) (hsz : ps.length + qs.length ≤ 2 ^ 20) (k : ∀ v s', Inv c (updL a (ps ++ qs) σ) γ s' → Q v s')
    (hs : isStarred e = false := by rfl) (hline : (apos.endLine == pos.line) = true := by rfl)
    (hd : (x == ("__debug__" : Str)) = false := by decide) (hcd : (x == ("__classdict__" : Str)) = false := by decide) :
    wpAny c.M c.A (eval (.Call (.Attribute (.Name x px) "extend" apos) [e] [] pos) c.env) Q E s := by
  refine meth1_raw (c := c) F.plainAttrs_list F.slot_list_extend F.type_list_extend (var_raw I hx hk (fun v q => ?_) hd hcd) hs rfl hline
  obtain ⟨rfl, hL⟩ := q
  refine ⟨hL.typeIs, fun b e => hL.noDict e, wpAny_mono he (fun v s₁ ⟨I1, b, q1, hne, q2⟩ => ?_) fun _ _ x => x⟩
  subst q1
  have hL1 := I1.list hx hk
  obtain ⟨vs, hpl, q3⟩ := id hL1
  obtain ⟨n, e⟩ := id hpl
  obtain ⟨ws, hpl2, q4⟩ := id q2
  obtain ⟨n2, e2⟩ := id hpl2
  have hl3 := q3.length
  have hl4 := q4.length
  have hsz' : vs.toArray.size + ws.toArray.size ≤ sizeLine := by simp only [List.size_toArray]; unfold sizeLine; omega
  refine call_meets PySem.F.slot_list_extend ⟨_, e, rfl⟩ PySem.F.entry_list_extend (PySem.F.args_list_extend_2 _ _) (AutoSeq1.list_extend_list_list_0 a vs.toArray n b ws.toArray n2 (extend_door hsz') (Nat.le_trans (Nat.le_add_right _ _) hsz')) ⟨e, e2, k _ _ ?_⟩
  have kb : KeepBut a s₁.heap (s₁.heap.update a (Obj.mapSeq fun x => x ++ ws.toArray)) := fun b' o hb e => (Heap.get?_update_other _ _ (Ne.symm hb)).trans e
  have nt : NoTup ({ cls := .type "list", data := .seq vs.toArray n } : Obj) := .inl (by simp)
  have ho' : (s₁.heap.update a (Obj.mapSeq fun x => x ++ ws.toArray)).get? a = some { cls := .type "list", data := .seq (vs ++ ws).toArray (if (vs.toArray ++ ws.toArray).size == vs.toArray.size then n else n + 1) } := by
    rw [Heap.get?_update_self _ e rfl]
    simp [Obj.mapSeq]
  exact I1.lst (tk := s₁.toks) hL1 hB hγ kb ⟨vs ++ ws, ⟨_, ho'⟩, (q3.mono fun _ _ z => z.but e nt kb).append (q4.mono fun _ _ z => z.but e nt kb)⟩
theorem W.extend {x : Str} {e : PySem.Expr} {px apos pos spos : Pos} {a : Addr} {ps qs : List Pt} (I : Inv c σ γ s) (hx : σ.lookup x = some (.l a ps)) (hk : Seen c x)
    (he : ExpF c σ γ e qs) (hB : c.B.heap.get? a = none) (hγ : ∀ q ∈ γ.objs, q.1 ≠ a) (hsz : ps.length + qs.length ≤ 2 ^ 20) (k : ∀ s', Inv c (updL a (ps ++ qs) σ) γ s' → W c rest Q E s')
    (hs : isStarred e = false := by rfl) (hline : (apos.endLine == pos.line) = true := by rfl) (hi : interactive c.env = false := by rfl)
    (hd : (x == ("__debug__" : Str)) = false := by decide) (hcd : (x == ("__classdict__" : Str)) = false := by decide) :
    W c (.Expr (.Call (.Attribute (.Name x px) "extend" apos) [e] [] pos) spos :: rest) Q E s := by
  refine wpAny_execs_cons (wpAny_Expr_any ?_ hi)
  refine extend_raw I hx hk (wpAny_mono (he s I) (fun v s₁ ⟨e1, b, q1, q2, q3⟩ => ⟨I.ext e1, b, q1, ?_, q3⟩) fun _ _ x => x.elim) hB hγ hsz (fun v s' I' => k s' I') hs hline hd hcd
  rintro rfl
  obtain ⟨vs, ⟨n, e⟩, _⟩ := I.list hx hk
  rw [q2] at e; cases e

/-! texts -/
theorem strsAre_of {h : Heap} : ∀ {ys : List Str} {vs : List Value}, All2 (Pt.Is h) (ys.map pS) vs → StrsAre vs ys
  | [], [], _ => .nil
  | y :: ys, v :: vs, ⟨⟨t, e⟩, r⟩ => by subst e; exact .cons y t (strsAre_of r)
  | [], _ :: _, h => h.elim
  | _ :: _, [], h => h.elim
theorem Exp.join {o e : PySem.Expr} {apos pos : Pos} {x : Str} {ys : List Str} (ho : Exp c σ γ o (vS x)) (he : Exp c σ γ e (.l (ys.map pS))) (hsep : x.length ≤ 16) (hw : (ys.map (·.length)).sum + ys.length ≤ 1048576)
    (hs : isStarred e = false := by rfl) (hbase : attributeBase o "join" c.env (eval o c.env) = eval o c.env := by rfl) (hline : (apos.endLine == pos.line) = true := by rfl) :
    Exp c σ γ (.Call (.Attribute o "join" apos) [e] [] pos) (vS (Txt.join x ys)) := fun s I => by
  refine meth1_raw (c := c) F.plainAttrs_str F.slot_str_join F.type_str_join (wpAny_mono (ho s I) (fun ov s₁ ⟨e1, t, q⟩ => ?_) fun _ _ x => x) hs hbase hline
  subst q
  refine ⟨typeIs_str _ _ _, (fun a e => by cases e), wpAny_mono (he s₁ (I.ext e1)) (fun v s₂ ⟨e2, a, q1, vs, ⟨n, e3⟩, q2⟩ => ?_) fun _ _ x => x⟩
  subst q1
  exact join_listW ⟨_, e3, rfl, n, rfl⟩ (strsAre_of q2) hsep hw fun t' k => ⟨(e1.trans e2).trans .toks, _, rfl⟩
theorem Exp.index {o e : PySem.Expr} {apos pos : Pos} {x y : Str} (hh : c.A.handled = none) (ho : Exp c σ γ o (vS x)) (he : Exp c σ γ e (vS y)) (hf : 0 ≤ Txt.find x y)
    (hs : isStarred e = false := by rfl) (hbase : attributeBase o "index" c.env (eval o c.env) = eval o c.env := by rfl) (hline : (apos.endLine == pos.line) = true := by rfl) :
    Exp c σ γ (.Call (.Attribute o "index" apos) [e] [] pos) (vI (Txt.find x y)) := fun s I => by
  refine meth1_raw (c := c) F.plainAttrs_str F.slot_str_index F.type_str_index (wpAny_mono (ho s I) (fun ov s₁ ⟨e1, t, q⟩ => ?_) fun _ _ x => x) hs hbase hline
  subst q
  refine ⟨typeIs_str _ _ _, (fun a e => by cases e), wpAny_mono (he s₁ (I.ext e1)) (fun v s₂ ⟨e2, u, q⟩ => ?_) fun _ _ x => x⟩
  subst q
  exact index_or hh (fun h _ => by omega) fun _ _ => ⟨(e1.trans e2).trans .toks, _, rfl⟩
/-- over the signs of a text -/
theorem Src.str {iter : PySem.Expr} {x : Str} (hh : c.A.handled = none) (h : Exp c σ γ iter (vS x)) : Src c σ γ iter (x.cps.toList.map fun d => pS ⟨#[d]⟩) (fun _ _ => False) := fun s I =>
  wpAny_mono (h s I) (fun v s₁ ⟨e1, t, q⟩ => by
    subst q
    have aux : ∀ cls, (∀ A' : Around, A'.handled = none → Walks c.prog c.w A' s₁.heap.objs.size [s₁.heap.objs.size] [s₁.heap.objs.size] x.cps.size (SignAt x) (fun i h => h.IsStrIter s₁.heap.objs.size cls x t i)) →
        Ext s { s₁ with heap := s₁.heap.push { cls := .type cls, data := .fields #[.str x t, .int 0 0] } } ∧ ∃ I fr P St, SrcAt c s { s₁ with heap := s₁.heap.push { cls := .type cls, data := .fields #[.str x t, .int 0 0] } } (.ref s₁.heap.objs.size) (x.cps.toList.map fun d => pS ⟨#[d]⟩) (fun _ => False) I fr P St := by
      intro cls Wk
      have Wk := Wk c.A hh
      rw [show x.cps.size = (x.cps.toList.map fun d => pS ⟨#[d]⟩).length by simp] at Wk
      refine ⟨e1.trans .push, s₁.heap.objs.size, [], _, _, ⟨rfl, Wk, ⟨_, Heap.get?_push_size _ rfl, rfl, rfl⟩, none_of_size e1.keep, ?_, ?_, ?_, ?_⟩⟩
      · rintro i h ⟨o, ho, _, hd⟩; exact ⟨o, _, ho, hd⟩
      · rintro i v ⟨d, u, hd, rfl⟩ h kt
        exact ⟨pS ⟨#[d]⟩, by simp [hd], u, rfl⟩
      · intro b hb; cases hb
      · intro i h st b hb; cases hb
    cases ha : x.cps.all (· < 128)
    · exact wpAny_pyIter_wide ha (aux _ fun A' hA => Walks.strWide hA _ x t)
    · exact wpAny_pyIter_ascii ha (aux _ fun A' hA => Walks.strAscii hA _ x t)) fun _ _ x => x
end
end Mine

namespace Mine

/-! ## equality -/
def At.py : At → PyData
  | .none => .none
  | .bool b => .bool b
  | .int i => .int i
  | .str x => .str x
def Pt.py : Pt → PyData
  | .a x => x.py
  | .t l => .tuple (l.map At.py)
def At.ok : At → Bool
  | .str x => PyData.strOk x
  | _ => true
def Pt.ok : Pt → Bool
  | .a x => x.ok
  | .t l => l.all At.ok
theorem At.reads {h : Heap} {x : At} {v : Value} (y : x.Is v) : Reads h v x.py [] := by
  cases x with
  | none => cases y; exact .none
  | bool b => cases y; exact .bool b
  | int i => obtain ⟨t, rfl⟩ := y; exact .int i t
  | str x => obtain ⟨t, rfl⟩ := y; exact .str x t
theorem At.readsAll {h : Heap} : ∀ {l : List At} {vs : List Value}, All2 At.Is l vs → ReadsAll h vs (l.map At.py) []
  | [], [], _ => .nil
  | _ :: _, _ :: _, ⟨y, r⟩ => .cons (as := []) (bs := []) (At.reads y) (At.readsAll r)
  | [], _ :: _, h => h.elim
  | _ :: _, [], h => h.elim
theorem Pt.reads {h : Heap} {p : Pt} {v : Value} (y : p.Is h v) : ∃ as, Reads h v p.py as := by
  cases p with
  | a x => exact ⟨_, At.reads y⟩
  | t l => obtain ⟨a, vs, rfl, ⟨o, ho, hc, n, hd⟩, q⟩ := y; exact ⟨[], .tuple ho hc hd (At.readsAll q)⟩
theorem Pt.readsAll {h : Heap} : ∀ {l : List Pt} {vs : List Value}, All2 (Pt.Is h) l vs → ∃ as, ReadsAll h vs (l.map Pt.py) as
  | [], [], _ => ⟨_, .nil⟩
  | _ :: _, _ :: _, ⟨y, r⟩ => let ⟨_, r1⟩ := Pt.reads y; let ⟨_, r2⟩ := Pt.readsAll r; ⟨_, .cons r1 r2⟩
  | [], _ :: _, h => h.elim
  | _ :: _, [], h => h.elim
theorem At.lay {x : At} (h : x.ok = true) : x.py.canLay0 = true ∧ x.py.depth = 0 := by
  cases x <;> simp_all [At.py, At.ok, PyData.canLay0, PyData.depth]
theorem At.layAll : ∀ {l : List At}, l.all At.ok = true → PyData.canLayAll0 (l.map At.py) = true ∧ PyData.depthAll (l.map At.py) = 0
  | [], _ => by simp [PyData.canLayAll0, PyData.depthAll]
  | x :: l, h => by
    simp only [List.all_cons, Bool.and_eq_true] at h
    have h1 := At.lay h.1
    have h2 := At.layAll h.2
    simp [PyData.canLayAll0, PyData.depthAll, h1.1, h1.2, h2.1, h2.2]
theorem Pt.lay {p : Pt} (h : p.ok = true) : p.py.canLay0 = true ∧ p.py.depth ≤ 1 := by
  cases p with
  | a x => have := At.lay h; exact ⟨this.1, by rw [show (Pt.a x).py = x.py from rfl, this.2]; omega⟩
  | t l => have := At.layAll h; simp [Pt.py, PyData.canLay0, PyData.depth, this.1, this.2]
theorem Pt.layAll : ∀ {l : List Pt}, l.all Pt.ok = true → PyData.canLayAll0 (l.map Pt.py) = true ∧ PyData.depthAll (l.map Pt.py) ≤ 1
  | [], _ => by simp [PyData.canLayAll0, PyData.depthAll]
  | x :: l, h => by
    simp only [List.all_cons, Bool.and_eq_true] at h
    have h1 := Pt.lay h.1
    have h2 := Pt.layAll h.2
    simp only [List.map_cons, PyData.canLayAll0, PyData.depthAll, h1.1, h2.1]
    exact ⟨rfl, Nat.max_le.mpr ⟨h1.2, h2.2⟩⟩
theorem Lst.reads {h : Heap} {a : Addr} {ps : List Pt} (y : Lst h a ps) : ∃ as, Reads h (.ref a) (.list (ps.map Pt.py)) as := by
  obtain ⟨vs, ⟨n, e⟩, q⟩ := y
  obtain ⟨as, r⟩ := Pt.readsAll q
  exact ⟨_, .list e rfl rfl r⟩
theorem Lst.shaped {ps : List Pt} (h : ps.all Pt.ok = true) : SeqAt.shaped (.list (ps.map Pt.py)) = true := by
  have := Pt.layAll h
  simp [SeqAt.shaped, PyData.canLay0, PyData.depth, this.1]
  omega

section
variable {c : Cx} {σ σ' : List (Str × Ct)} {γ : Gh} {s : Shared} {rest : List Stmt} {Q : Flow → Shared → Prop} {E : Value → Shared → Prop}
theorem Cmp.neL {n : Nat} {ps : List Pt} (hA : AOk n c.A) (h : ps.all Pt.ok = true) : Cmp c σ γ .NotEq (.l ps) (.l ps) false := fun s a b I ⟨a', q1, y1⟩ ⟨b', q2, y2⟩ => by
  subst q1 q2
  obtain ⟨_, r1⟩ := y1.reads
  obtain ⟨_, r2⟩ := y2.reads
  refine ne_dataH r1 r2 (Lst.shaped h) (Lst.shaped h) (by have := hA.units; unfold cLine; omega) ⟨.rfl', ?_⟩
  rw [SeqAt.eqv_refl _ (SeqAt.canLay_of_shaped (Lst.shaped h))]; rfl
theorem Cmp.eqL {n : Nat} {ps : List Pt} (hA : AOk n c.A) (h : ps.all Pt.ok = true) : Cmp c σ γ .Eq (.l ps) (.l ps) true := fun s a b I ⟨a', q1, y1⟩ ⟨b', q2, y2⟩ => by
  subst q1 q2
  obtain ⟨_, r1⟩ := y1.reads
  obtain ⟨_, r2⟩ := y2.reads
  refine eq_dataH r1 r2 (Lst.shaped h) (Lst.shaped h) (by have := hA.units; unfold cLine; omega) ⟨.rfl', ?_⟩
  rw [SeqAt.eqv_refl _ (SeqAt.canLay_of_shaped (Lst.shaped h))]
/-- an int in a list of ints -/
theorem intsAre_of {h : Heap} : ∀ {ns : List Int} {vs : List Value}, All2 (Pt.Is h) (ns.map pI) vs → IntsAre vs ns
  | [], [], _ => .nil
  | y :: ys, v :: vs, ⟨⟨t, e⟩, r⟩ => by subst e; exact .cons y t (intsAre_of r)
  | [], _ :: _, h => h.elim
  | _ :: _, [], h => h.elim
theorem Cmp.inI {k : Int} {ns : List Int} : Cmp c σ γ .In (vI k) (.l (ns.map pI)) (ns.any (· == k)) := fun s a b I ⟨t, q1⟩ ⟨b', q2, vs, ⟨n, e⟩, q⟩ => by
  subst q1 q2
  exact in_list_ints ⟨_, e, rfl, n, rfl⟩ (intsAre_of q) ⟨.rfl', rfl⟩

/-! ## built-in functions -/
theorem bcall1_raw {nm : Str} {id : String} {e : PySem.Expr} {np pos : Pos} {x : Vl} {Q : Value → Shared → Prop} {E : Value → Shared → Prop} (I : Inv c σ γ s) (hb : nsIn c.K mainGlobals nm = some none) (hv : bootBuiltins nm = some (.builtin id))
    (hk : c.env.kindOf nm = some .globalImplicit) (he : Exp c σ γ e x) (h : ∀ v s₁, Ext s s₁ → x.Is s₁.heap v → wpAny c.M c.A (call (.builtin id) [v]) Q E s₁)
    (hs : isStarred e = false) (hn : nm ≠ "__name__" := by decide) (hd : (nm == ("__debug__" : Str)) = false := by decide) : wpAny c.M c.A (eval (.Call (.Name nm np) [e] [] pos) c.env) Q E s := by
  refine wpAny_Call_NameR (nameB I hb hv hk ?_ hn hd)
  rw [starEach_cons hs]
  exact callWith_builtin rfl (evalArgs_plain (spliced_cons (wpAny_mono (he s I) (fun v s₁ ⟨e1, q⟩ => spliced_nil (h v s₁ e1 q)) fun _ _ x => x.elim)))
theorem Exp.lenL {e : PySem.Expr} {np pos : Pos} {ps : List Pt} (he : Exp c σ γ e (.l ps)) (hsz : ps.length ≤ 2 ^ 30) (hb : nsIn c.K mainGlobals "len" = some none := by rfl) (hk : c.env.kindOf "len" = some .globalImplicit := by rfl)
    (hs : isStarred e = false := by rfl) : Exp c σ γ (.Call (.Name "len" np) [e] [] pos) (vI ps.length) := fun s I =>
  bcall1_raw (id := "len") I hb (by decide +kernel) hk he (fun v s₁ e1 ⟨a, q1, vs, ⟨n, e⟩, q⟩ => by
    subst q1
    refine len_list (items := vs.toArray) ⟨_, e, rfl, n, rfl⟩ (by simp only [List.size_toArray, ← q.length]; omega) ⟨e1.trans .toks, s₁.toks + 1, ?_⟩
    rw [List.size_toArray, q.length]) hs
theorem Exp.lenS {e : PySem.Expr} {np pos : Pos} {x : Str} (he : Exp c σ γ e (vS x)) (hsz : x.length ≤ 2 ^ 30) (hb : nsIn c.K mainGlobals "len" = some none := by rfl) (hk : c.env.kindOf "len" = some .globalImplicit := by rfl)
    (hs : isStarred e = false := by rfl) : Exp c σ γ (.Call (.Name "len" np) [e] [] pos) (vI x.length) := fun s I =>
  bcall1_raw (id := "len") I hb (by decide +kernel) hk he (fun v s₁ e1 ⟨t, q⟩ => by
    subst q
    exact len_str (by omega) ⟨e1.trans .toks, _, rfl⟩) hs
theorem Exp.abs {e : PySem.Expr} {np pos : Pos} {i : Int} (he : Exp c σ γ e (vI i)) (hb : nsIn c.K mainGlobals "abs" = some none := by rfl) (hk : c.env.kindOf "abs" = some .globalImplicit := by rfl)
    (hs : isStarred e = false := by rfl) : Exp c σ γ (.Call (.Name "abs" np) [e] [] pos) (vI (if i < 0 then -i else i)) := fun s I =>
  bcall1_raw (id := "abs") I hb (by decide +kernel) hk he (fun v s₁ e1 ⟨t, q⟩ => by
    subst q
    exact call_abs_int fun u tk => ⟨e1.trans .toks, _, rfl⟩) hs
/-- isinstance(e, T) -/
theorem isi_raw {e : PySem.Expr} {T : Str} {TT : String} {np tp pos : Pos} {x : Vl} {b : Bool} (he : Exp c σ γ e x) (hT : bootBuiltins T = some (.type TT)) (hbT : nsIn c.K mainGlobals T = some none) (hkT : c.env.kindOf T = some .globalImplicit)
    (h : ∀ s v, x.Is s.heap v → wpAny c.M c.A (call (.builtin "isinstance") [v, .type TT]) (fun r s' => Ext s s' ∧ r = .bool b) no s)
    (hb : nsIn c.K mainGlobals "isinstance" = some none) (hk : c.env.kindOf "isinstance" = some .globalImplicit)
    (hs : isStarred e = false) (hn : T ≠ "__name__" := by decide) (hd : (T == ("__debug__" : Str)) = false := by decide) : Exp c σ γ (.Call (.Name "isinstance" np) [e, .Name T tp] [] pos) (vB b) := fun s I => by
  refine wpAny_Call_NameR (nameB I hb (v := .builtin "isinstance") (by decide +kernel) hk ?_)
  rw [starEach_cons hs, starEach_cons rfl]
  refine callWith_builtin rfl (evalArgs_plain (spliced_cons (wpAny_mono (he s I) (fun v s₁ ⟨e1, q⟩ => spliced_cons (nameB (I.ext e1) hbT hT hkT (spliced_nil ?_) hn hd)) fun _ _ x => x.elim)))
  exact wpAny_mono (h s₁ v q) (fun r s' ⟨e2, q2⟩ => by subst q2; exact ⟨e1.trans e2, rfl⟩) fun _ _ x => x
theorem Exp.isiIntBool {e : PySem.Expr} {np tp pos : Pos} {i : Int} (he : Exp c σ γ e (vI i)) (hbT : nsIn c.K mainGlobals "bool" = some none := by rfl) (hkT : c.env.kindOf "bool" = some .globalImplicit := by rfl)
    (hb : nsIn c.K mainGlobals "isinstance" = some none := by rfl) (hk : c.env.kindOf "isinstance" = some .globalImplicit := by rfl) (hs : isStarred e = false := by rfl) :
    Exp c σ γ (.Call (.Name "isinstance" np) [e, .Name "bool" tp] [] pos) (vB false) :=
  isi_raw he (TT := "bool") (by decide +kernel) hbT hkT (fun s v ⟨t, q⟩ => by
    subst q
    exact call_isinstance (isinstance_false_int (by decide) (by rfl) (isSubtype_of_subB (by decide +kernel))) ⟨.toks, rfl⟩) hb hk hs
theorem Exp.isiIntInt {e : PySem.Expr} {np tp pos : Pos} {i : Int} (he : Exp c σ γ e (vI i)) (hbT : nsIn c.K mainGlobals "int" = some none := by rfl) (hkT : c.env.kindOf "int" = some .globalImplicit := by rfl)
    (hb : nsIn c.K mainGlobals "isinstance" = some none := by rfl) (hk : c.env.kindOf "isinstance" = some .globalImplicit := by rfl) (hs : isStarred e = false := by rfl) :
    Exp c σ γ (.Call (.Name "isinstance" np) [e, .Name "int" tp] [] pos) (vB true) :=
  isi_raw he (TT := "int") (by decide +kernel) hbT hkT (fun s v ⟨t, q⟩ => by
    subst q
    exact PyProof.Rows.call_isinstance_yes (typeIs_int _ _ _) (by rfl) (isSubtype_of_subB (by decide +kernel)) ⟨.rfl', rfl⟩) hb hk hs
theorem Exp.isiBoolBool {e : PySem.Expr} {np tp pos : Pos} {i : Bool} (he : Exp c σ γ e (vB i)) (hbT : nsIn c.K mainGlobals "bool" = some none := by rfl) (hkT : c.env.kindOf "bool" = some .globalImplicit := by rfl)
    (hb : nsIn c.K mainGlobals "isinstance" = some none := by rfl) (hk : c.env.kindOf "isinstance" = some .globalImplicit := by rfl) (hs : isStarred e = false := by rfl) :
    Exp c σ γ (.Call (.Name "isinstance" np) [e, .Name "bool" tp] [] pos) (vB true) :=
  isi_raw he (TT := "bool") (by decide +kernel) hbT hkT (fun s v q => by
    cases q
    exact PyProof.Rows.call_isinstance_yes (PySem.typeIs_bool _ _) (by rfl) (isSubtype_of_subB (by decide +kernel)) ⟨.rfl', rfl⟩) hb hk hs

/-! ## tests and choices -/
theorem Tst.val {e : PySem.Expr} {b : Bool} (h : Exp c σ γ e (vB b)) (he : ∀ whole, isTrue e c.env whole = (do let v ← whole; standAt e.pos; holding [v] (truthy v)) := by intro _; rfl) : Tst c σ γ e b := fun s I =>
  wpAny_isTrue_value (wpAny_mono (h s I) (fun v s' ⟨e1, q⟩ => by cases q; exact wpAny_truthy_bool ⟨e1, rfl⟩) fun _ _ x => x) (he _)
/-- all (any) of the tests, the later ones asked only where they are reached -/
theorem Tst.and2 {x y : PySem.Expr} {pos : Pos} {a b : Bool} (h1 : Tst c σ γ x a) (h2 : a = true → Tst c σ γ y b) : Tst c σ γ (.BoolOp .And [x, y] pos) (a && b) := fun s I =>
  wpAny_isTrue_BoolOp (wpAny_allTrue_And_cons (wpAny_mono (h1 s I) (fun r s' ⟨e1, q⟩ => by
    subst q
    cases r with
    | false => exact ⟨e1, rfl⟩
    | true => exact wpAny_allTrue_And_cons (wpAny_mono (h2 rfl s' (I.ext e1)) (fun r s'' ⟨e2, q⟩ => by
        subst q
        cases r with
        | false => exact ⟨e1.trans e2, rfl⟩
        | true => exact wpAny_allTrue_And_nil ⟨e1.trans e2, rfl⟩) fun _ _ x => x)) fun _ _ x => x))
theorem Tst.or2 {x y : PySem.Expr} {pos : Pos} {a b : Bool} (h1 : Tst c σ γ x a) (h2 : a = false → Tst c σ γ y b) : Tst c σ γ (.BoolOp .Or [x, y] pos) (a || b) := fun s I =>
  wpAny_isTrue_BoolOp (wpAny_allTrue_Or_cons (wpAny_mono (h1 s I) (fun r s' ⟨e1, q⟩ => by
    subst q
    cases r with
    | true => exact ⟨e1, rfl⟩
    | false => exact wpAny_allTrue_Or_cons (wpAny_mono (h2 rfl s' (I.ext e1)) (fun r s'' ⟨e2, q⟩ => by
        subst q
        cases r with
        | true => exact ⟨e1.trans e2, rfl⟩
        | false => exact wpAny_allTrue_Or_nil ⟨e1.trans e2, rfl⟩) fun _ _ x => x)) fun _ _ x => x))
theorem Exp.and2 {x y : PySem.Expr} {pos : Pos} {a b : Bool} (h1 : Exp c σ γ x (vB a)) (h2 : a = true → Exp c σ γ y (vB b)) : Exp c σ γ (.BoolOp .And [x, y] pos) (vB (a && b)) := fun s I =>
  wpAny_And2 (wpAny_mono (h1 s I) (fun v s' ⟨e1, q⟩ => by
    cases q
    refine wpAny_truthy_bool ?_
    cases a with
    | false => exact ⟨e1, rfl⟩
    | true => exact wpAny_mono (h2 rfl s' (I.ext e1)) (fun r s'' ⟨e2, q⟩ => ⟨e1.trans e2, q⟩) fun _ _ x => x) fun _ _ x => x)
theorem Exp.ite {t x y : PySem.Expr} {pos : Pos} {b : Bool} {z : Vl} (h : Tst c σ γ t b) (h1 : b = true → Exp c σ γ x z) (h2 : b = false → Exp c σ γ y z) : Exp c σ γ (.IfExp t x y pos) z := fun s I =>
  IfExp_ (wpAny_mono (h s I) (fun r s' ⟨e1, q⟩ => by
    subst q
    cases r with
    | true => exact wpAny_mono (h1 rfl s' (I.ext e1)) (fun v s'' ⟨e2, q⟩ => ⟨e1.trans e2, q⟩) fun _ _ x => x
    | false => exact wpAny_mono (h2 rfl s' (I.ext e1)) (fun v s'' ⟨e2, q⟩ => ⟨e1.trans e2, q⟩) fun _ _ x => x) fun _ _ x => x)
theorem Exp.not {e : PySem.Expr} {pos : Pos} {b : Bool} (h : Exp c σ γ e (vB b)) : Exp c σ γ (.UnaryOp .Not e pos) (vB (!b)) := fun s I =>
  wpAny_UnaryOp (wpAny_mono (h s I) (fun v s' ⟨e1, q⟩ => by cases q; exact not_of (wpAny_truthy_bool ⟨e1, rfl⟩)) fun _ _ x => x)
end
end Mine

namespace Mine
section
variable {c : Cx} {σ σ' : List (Str × Ct)} {γ : Gh} {s : Shared} {rest : List Stmt} {Q : Flow → Shared → Prop} {E : Value → Shared → Prop}

/-! ## a tuple laid apart -/
def pushAll : List (Str × Pos) → List At → List (Str × Ct) → List (Str × Ct)
  | (x, _) :: xs, a :: as, σ => pushAll xs as ((x, .p (.a a)) :: σ)
  | _, _, σ => σ
theorem assignNames {Q : Unit → Shared → Prop} {E : Value → Shared → Prop} : ∀ (xs : List (Str × Pos)) (as : List At) (vs : List Value) (σ : List (Str × Ct)) (s : Shared), All2 At.Is as vs → xs.length = as.length → (∀ x ∈ xs, Sto c x.1) → Inv c σ γ s →
    (∀ s', Inv c (pushAll xs as σ) γ s' → Q () s') → wpAny c.M c.A (assignInOrder ((assignEach (xs.map fun x => .Name x.1 x.2) c.env).map (·.2)) vs) Q E s
  | [], [], [], σ, s, _, _, _, I, k => wpAny_pure (k s I)
  | (x, px) :: xs, a :: as, v :: vs, σ, s, ⟨h1, h2⟩, hl, hx, I, k => by
    show wpAny c.M c.A (do holding vs (PySem.assign (.Name x px) c.env v); assignInOrder ((assignEach (xs.map fun x => .Name x.1 x.2) c.env).map (·.2)) vs) Q E s
    refine wpAny_bind (wpAny_holding (wpAny_assign_Name (I.store (ct := .p (.a a)) h1 (hx _ (.head _)) fun s' I' => ?_)))
    exact assignNames xs as vs _ s' h2 (by simpa using hl) (fun y hy => hx y (.tail _ hy)) I' k
  | [], _ :: _, _, _, _, _, hl, _, _, _ => by simp at hl
  | _ :: _, [], _, _, _, _, hl, _, _, _ => by simp at hl
  | [], [], _ :: _, _, _, h, _, _, _, _ => h.elim
  | _ :: _, _ :: _, [], _, _, h, _, _, _, _ => h.elim
theorem assignEach_names {env : Env} : ∀ (xs : List (Str × Pos)), (assignEach (xs.map fun x => PySem.Expr.Name x.1 x.2) env).length = xs.length ∧ (assignEach (xs.map fun x => PySem.Expr.Name x.1 x.2) env).findIdx? (·.1) = none
  | [] => ⟨rfl, rfl⟩
  | (x, px) :: xs => by
    have ih := assignEach_names (env := env) xs
    have e : assignEach (((x, px) :: xs).map fun x => PySem.Expr.Name x.1 x.2) env = (false, PySem.assign (.Name x px) env) :: assignEach (xs.map fun x => PySem.Expr.Name x.1 x.2) env := rfl
    rw [e]
    refine ⟨by simp [ih.1], ?_⟩
    rw [List.findIdx?_cons, ih.2]; rfl
theorem W.unpack {elts : List PySem.Expr} {e : PySem.Expr} {tk : Nat} {tpos pos : Pos} {as : List At} (xs : List (Str × Pos)) (hh : c.A.handled = none) (I : Inv c σ γ s) (he : Exp c σ γ e (.p (.t as))) (hx : elts = xs.map fun x => .Name x.1 x.2) (hl : xs.length = as.length)
    (hsto : ∀ x ∈ xs, Sto c x.1) (k : ∀ s', Inv c (pushAll xs as σ) γ s' → W c rest Q E s')
    (hs : swapsWithSole [.Tuple elts tk tpos] e pos.line c.env = pure false := by rfl) (hw : swappedStores [.Tuple elts tk tpos] e c.env = pure none := by rfl) : W c (.Assign [.Tuple elts tk tpos] e pos :: rest) Q E s := by
  refine wpAny_execs_cons (wpAny_Assign_stores (wpAny_mono (he s I) (fun v s₁ ⟨e1, q⟩ => ?_) fun _ _ x => x.elim) hs hw)
  obtain ⟨a, vs, rfl, ⟨o, ho, hc, n, hd⟩, q⟩ := q
  subst hx
  obtain ⟨h1, h2⟩ := assignEach_names (env := c.env) xs
  show wpAny _ _ (PySem.assign (.Tuple _ tk tpos) c.env (.ref a)) _ _ _
  refine wpAny_assign_Tuple hh ⟨o, ho, hc, n, hd⟩ (by rw [h1, List.size_toArray, ← q.length, hl]) h2 fun h' hk => ?_
  have e2 : Ext s₁ { s₁ with heap := h' } := .heap fun b o e => hk b o (Nat.ne_of_lt (Heap.lt_size e)) e
  exact assignNames xs as vs σ _ q hl hsto ((I.ext e1).ext e2) k

/-! ## a dict of the text's top, by a text -/
theorem Exp.topDict {x : Str} {np pos : Pos} {slice : PySem.Expr} {d : Addr} {es : Array DictEntry} {n : Nat} {y : Str} {i : Int} {t : Tok} (hg : nsIn c.K mainGlobals x = some (some (.ref d))) (hk : c.env.kindOf x = some .globalImplicit)
    (hl : c.K.lookup d = some ⟨.type "dict", none, .dict es n, #[]⟩) (hkl : KeysLit c.w.params es.toList) (he : Exp c σ γ slice (vS y)) (e : nsIn c.K d y = some (some (.int i t)))
    (hs : SubOk slice := by intro _ _; with_unfolding_all rfl) (hd : (x == ("__debug__" : Str)) = false := by decide) : Exp c σ γ (.Subscript (.Name x np) slice pos) (vI i) := fun s I => by
  refine sub_raw (nameK I hg hk (wpAny_mono (he s I) (fun v s₁ ⟨e1, u, q⟩ => ?_) fun _ _ x => x) hd)
  subst q
  have hm := mapOf_K (prog := c.prog) (w := c.w) (I.ext e1).ambH.inK hl hkl
  exact tail_any hm.typeIs slot_dict_getitem.lookup (wpAny_getItem_of (strKind_is c.prog c.w y u) hm (find_K hl e) ⟨e1.trans .toks, t, rfl⟩) (hs _ _)

/-! ## defs with cells -/
abbrev inDefC (prog : Program) (w : World) (K : Frag) (A : Around) (s : Shared) (qual : Str) (scope : Scope) (f : Addr) (cdv : Value) : Cx :=
  ⟨prog, w, K, A.deeper (envOfC qual scope s.heap.objs.size f cdv), s, envOfC qual scope s.heap.objs.size f cdv⟩

theorem mem_of_lookup {α : Type} {x : Str} {v : α} : ∀ {l : List (Str × α)}, l.lookup x = some v → (x, v) ∈ l
  | [], h => by cases h
  | (y, d) :: r, h => by
    rw [List.lookup_cons] at h
    cases hy : x == y with
    | true => rw [hy] at h; cases h; rw [beq_iff_eq.mp hy]; exact .head _
    | false => rw [hy] at h; exact .tail _ (mem_of_lookup h)
theorem pairwise_inj {x y : Str} {b : Addr} : ∀ {l : List (Str × Addr)}, (l.Pairwise fun p q => p.2 ≠ q.2) → (x, b) ∈ l → (y, b) ∈ l → x = y
  | [], _, h, _ => by cases h
  | p :: l, h, h1, h2 => by
    rw [List.pairwise_cons] at h
    rcases List.mem_cons.mp h1 with e1 | h1
    · rcases List.mem_cons.mp h2 with e2 | h2
      · rw [← e1] at e2; cases e2; rfl
      · rw [← e1] at h; exact absurd rfl (h.1 (y, b) h2 : (x, b).2 ≠ (y, b).2)
    · rcases List.mem_cons.mp h2 with e2 | h2
      · rw [← e2] at h; exact absurd rfl (h.1 (x, b) h1 : (y, b).2 ≠ (x, b).2)
      · exact pairwise_inj h.2 h1 h2
theorem enterC {prog : Program} {w : World} {K : Frag} {A : Around} {R : Result → Shared → Prop} {name qual : Str} {params : Arguments} {body : List Stmt} {scope : Scope} {dV kV doc pm cdv ct oc : Value} {an od : Option Addr} {osl : Array (Option Value)}
    {f : Addr} {vs : List Value} {binds : List (Str × Value)} {σ₀ : List (Str × Ct)}
    (ho : K.lookup f = some ⟨oc, od, .func (fnOf name qual params body scope dV kV doc pm an cdv ct), osl⟩) (hcd : codeIn K cdv qual = true) (hA : A.depth < recursionLimit) (amb : Amb K s.heap)
    (hb : bindArgs (fnOf name qual params body scope dV kV doc pm an cdv ct) ⟨vs, []⟩ = pure binds)
    (hkind : ∀ x ∈ binds, scope.names.lookup x.1 = some .local ∨ (scope.names.lookup x.1 = some .cell ∧ ((cellsFrom (s.heap.objs.size + 1) scope.names []).lookup x.1).isSome = true))
    (hσ : ∀ p ∈ σ₀, ∃ v, p.2.Is s.heap v ∧ ((scope.names.lookup p.1 = some .local ∧ bindL (fun x => scope.names.lookup x) binds (fun _ => none) p.1 = some v) ∨
      (scope.names.lookup p.1 = some .cell ∧ bindC (fun x => scope.names.lookup x) binds (fun _ => none) p.1 = some v ∧ ((cellsFrom (s.heap.objs.size + 1) scope.names []).lookup p.1).isSome = true)))
    (h : ∀ s₁, Inv (inDefC prog w K A s qual scope f cdv) σ₀ g0 s₁ →
      W (inDefC prog w K A s qual scope f cdv) body (fun fl s' => R (.ok (.ret (match fl with | .ret v => v | _ => .none))) s')
        (fun e s' => wpAny (model prog w) (A.deeper (envOfC qual scope s.heap.objs.size f cdv)) (leaving (envOfC qual scope s.heap.objs.size f cdv) e) (fun _ s'' => R (.error e) s'') (fun e' s'' => R (.error e') s'') s') s₁)
    (hco : scope.isCoroutine = false := by rfl) (hgen : scope.isGenerator = false := by rfl) (hk : scope.kind = .function := by rfl) : codeAny (model prog w) A (.call (.ref f) ⟨vs, []⟩) R s := by
  obtain ⟨p, l, mg, mb, T⟩ := amb.top
  refine codeAny_call_function (fd := fnOf name qual params body scope dV kV doc pm an cdv ct) hA (amb.inK _ _ ho) rfl hco hgen rfl (codeRec_of amb.inK hcd) ?_
  rw [hb]
  refine wpAny_pure (wpAny_newFunctionEnv_cells hk hkind fun env' he s' x => ?_)
  subst he
  obtain ⟨h₁, tk, rfl, hk₁⟩ := x.done
  refine ⟨T.nolimit.keeps hk₁, codeAny_func ?_⟩
  refine h _ ⟨amb, hk₁, rfl, ⟨hk, rfl, rfl, Heap.get?_none_of_le (Nat.le_refl _), ⟨_, x.toInCall.ns, fun y ct e hky => ?_⟩, fun y c e => ⟨_, x.cell y c e⟩, fun y z c e1 e2 => pairwise_inj x.apart (mem_of_lookup e1) (mem_of_lookup e2), fun y ct e hky => ?_⟩, fun q hq => (by cases hq), keepT0⟩
  · obtain ⟨v, h1, h2⟩ := hσ _ (lookup_mem e)
    have hky' : scope.names.lookup y = some .local := hky
    rcases h2 with ⟨_, h2⟩ | ⟨h2, _⟩
    · exact ⟨v, h2, h1.keep hk₁⟩
    · rw [hky'] at h2; cases h2
  · obtain ⟨v, h1, h2⟩ := hσ _ (lookup_mem e)
    have hky' : scope.names.lookup y = some .cell ∨ scope.names.lookup y = some .free := hky
    rcases h2 with ⟨h2, _⟩ | ⟨h2, h3, h4⟩
    · rw [h2] at hky'; rcases hky' with q | q <;> cases q
    · obtain ⟨b, hb'⟩ := Option.isSome_iff_exists.mp h4
      refine ⟨b, v, hb', ?_, h1.keep hk₁⟩
      have := x.cell y b hb'
      rw [← h3]; exact this
end
end Mine

namespace Mine
section
variable {c : Cx} {σ σ' : List (Str × Ct)} {γ : Gh} {s : Shared} {rest : List Stmt} {Q : Flow → Shared → Prop} {E : Value → Shared → Prop}
def itr {ι : Type} (f : ι → ι) : Nat → ι → ι
  | 0, i => i
  | n + 1, i => f (itr f n i)
theorem itr_succ {ι : Type} (f : ι → ι) : ∀ n i, itr f (n + 1) i = itr f n (f i)
  | 0, _ => rfl
  | n + 1, i => congrArg f (itr_succ f n i)
theorem itr_ends {ι : Type} (f : ι → ι) (b : ι → Bool) (P : ι → Prop) (μ : ι → Nat) (hP : ∀ i, P i → b i = true → P (f i)) (hμ : ∀ i, P i → b i = true → μ (f i) < μ i) : ∀ m i, μ i ≤ m → P i →
    ∃ n, (∀ k, k ≤ n → P (itr f k i)) ∧ ∀ k, k ≤ n → b (itr f k i) = decide (k < n) := by
  intro m
  induction m with
  | zero =>
    intro i hm hi
    refine ⟨0, fun k hk => ?_, fun k hk => ?_⟩
    · obtain rfl : k = 0 := by omega
      exact hi
    · obtain rfl : k = 0 := by omega
      cases hb : b i with
      | false => exact hb
      | true => have := hμ i hi hb; omega
  | succ m ih =>
    intro i hm hi
    cases hb : b i with
    | false =>
      refine ⟨0, fun k hk => ?_, fun k hk => ?_⟩
      · obtain rfl : k = 0 := by omega
        exact hi
      · obtain rfl : k = 0 := by omega
        exact hb
    | true =>
      have := hμ i hi hb
      obtain ⟨n, h1, h2⟩ := ih (f i) (by omega) (hP i hi hb)
      refine ⟨n + 1, fun k hk => ?_, fun k hk => ?_⟩
      · cases k with
        | zero => exact hi
        | succ k => rw [itr_succ]; exact h1 k (by omega)
      · cases k with
        | zero => show b i = _; rw [hb]; simp
        | succ k => rw [itr_succ, h2 k (by omega)]; simp
/-- a while by states: what the states become, what stays -/
theorem W.whileR {ι α : Type} {test : PySem.Expr} {body : List Stmt} {pos : Pos} (J : ι → List (Str × Ct)) (f : ι → ι) (b : ι → Bool) (P : ι → Prop) (μ : ι → Nat) (F : ι → α) (i₀ : ι) (I : Inv c (J i₀) γ s) (h0 : P i₀)
    (hP : ∀ i, P i → b i = true → P (f i) ∧ μ (f i) < μ i ∧ F (f i) = F i)
    (ht : ∀ i, P i → Tst c (J i) γ test (b i))
    (hbody : ∀ i s', P i → b i = true → Inv c (J i) γ s' → W c body (fun fl s'' => match fl with | .next => Inv c (J (f i)) γ s'' | _ => False) no s')
    (k : ∀ i s', P i → b i = false → F i = F i₀ → Inv c (J i) γ s' → W c rest Q E s') : W c (.While test body [] pos :: rest) Q E s := by
  obtain ⟨n, h1, h2⟩ := itr_ends f b P μ (fun i hi hb => (hP i hi hb).1) (fun i hi hb => (hP i hi hb).2.1) (μ i₀) i₀ (Nat.le_refl _) h0
  have hF : ∀ k, k ≤ n → F (itr f k i₀) = F i₀ := by
    intro k
    induction k with
    | zero => intro _; rfl
    | succ k ih =>
      intro hk
      have hb : b (itr f k i₀) = true := by rw [h2 k (by omega)]; simp; omega
      exact ((hP _ (h1 k (by omega)) hb).2.2).trans (ih (by omega))
  refine W.while_ (fun k => J (itr f k i₀)) n I (fun i hi => ?_) (fun i s' hi I' => ?_) (fun s' I' => k (itr f n i₀) s' (h1 n (Nat.le_refl _)) (by rw [h2 n (Nat.le_refl _)]; simp) (hF n (Nat.le_refl _)) I')
  · rw [← h2 i hi]; exact ht _ (h1 i hi)
  · exact hbody _ s' (h1 i (by omega)) (by rw [h2 i (by omega)]; simp; omega) I'
theorem ExpF.bin {l r : PySem.Expr} {op : Operator} {pos : Pos} {x y : Vl} {ps : List Pt} (h1 : Exp c σ γ l x) (h2 : Exp c σ γ r y)
    (h : ∀ s a b, Inv c σ γ s → x.Is s.heap a → y.Is s.heap b → wpAny c.M c.A (binaryOp op a b) (fun v s' => Ext s s' ∧ ∃ a, v = .ref a ∧ s.heap.get? a = none ∧ Lst s'.heap a ps) no s) : ExpF c σ γ (.BinOp l op r pos) ps := fun s I =>
  wpAny_BinOp (wpAny_mono (h1 s I) (fun a s₁ ⟨e1, q1⟩ => wpAny_mono (h2 s₁ (I.ext e1)) (fun b s₂ ⟨e2, q2⟩ =>
    wpAny_mono (h s₂ a b ((I.ext e1).ext e2) (q1.keep e2.keep) q2) (fun v s' ⟨e3, a', q3, q4, q5⟩ => ⟨(e1.trans e2).trans e3, a', q3, (by
      cases hg : s.heap.get? a' with
      | none => rfl
      | some o => have := (e1.trans e2).keep _ _ hg; rw [q4] at this; cases this), q5⟩) fun _ _ x => x) fun _ _ x => x) fun _ _ x => x)
theorem ExpF.addL {l r : PySem.Expr} {pos : Pos} {x y : List Pt} (h1 : Exp c σ γ l (.l x)) (h2 : Exp c σ γ r (.l y)) (hs : x.length + y.length ≤ sizeLine) : ExpF c σ γ (.BinOp l .Add r pos) (x ++ y) :=
  .bin h1 h2 fun s a b I q1 q2 => by
    obtain ⟨a, rfl, q1⟩ := q1; obtain ⟨b, rfl, q2⟩ := q2
    exact addL_raw q1 q2 hs fun a' s' e1 hn z => ⟨e1, _, rfl, hn, z⟩
theorem ExpF.mulL {l r : PySem.Expr} {pos : Pos} {p : Pt} {i : Int} (h1 : Exp c σ γ l (.l [p])) (h2 : Exp c σ γ r (vI i)) (hs : i.toNat ≤ 2 ^ 20) (hlo : -(2 ^ 63 : Int) ≤ i) : ExpF c σ γ (.BinOp l .Mult r pos) (List.replicate i.toNat p) :=
  .bin h1 h2 fun s a b I q1 q2 => by
    obtain ⟨a, rfl, q1⟩ := q1; obtain ⟨t, rfl⟩ := q2
    exact mulL_raw q1 hs hlo fun a' s' e1 hn z => ⟨e1, _, rfl, hn, z⟩
end
end Mine

namespace Mine
noncomputable abbrev prog1 : Program := PySem.Challenge.rw_mr0163_01.row.prog
noncomputable abbrev K1 (w : World) : Frag := hd1.heap_39 w.params
def worthL (l : List Nat) : Int := l.foldl (fun a (d : Nat) => 10 * a + ((d : Int) - 48)) (0 : Int)
theorem worthL_snoc (l : List Nat) (d : Nat) : worthL (l ++ [d]) = 10 * worthL l + ((d : Int) - 48) := by simp [worthL, List.foldl_append]
def Dig (d : Nat) : Prop := 48 ≤ d ∧ d ≤ 57
theorem find_dig : ∀ d : Nat, d < 10 → Txt.find (Str.ofString "0123456789") ⟨#[d + 48]⟩ = (d : Int) := by decide +kernel
theorem find_dig' {d : Nat} (h : Dig d) : Txt.find (Str.ofString "0123456789") ⟨#[d]⟩ = (d : Int) - 48 := by
  have := find_dig (d - 48) (by have := h.2; omega)
  have e : d - 48 + 48 = d := by have := h.1; omega
  rw [e] at this
  rw [this]; have := h.1; omega

set_option maxHeartbeats 1000000 in
theorem worth_ok (w : World) (x : Str) (hx : ∀ d ∈ x.cps.toList, Dig d) : Fun prog1 w (K1 w) 1 59 [vS x] (vI (worthL x.cps.toList)) := by
  intro A s vs hA amb hargs
  match vs, hargs with
  | [v], ⟨⟨t, hv⟩, _⟩ =>
  subst hv
  refine enter (f := 59) (σ₀ := [("figures", cS x)]) (binds := [("figures", .str x t)]) (by rfl) (by rfl) (by have := hA.depth; omega) amb (by rfl) (by simp) ⟨⟨rfl, t, rfl⟩, trivial⟩ (fun s₁ I => ?_)
  refine W.assign I Exp.cInt (.inl rfl) (fun s₂ I2 => ?_)
  refine W.for_ (Rt := fun _ _ => False) (fun i => [("worth", cI (worthL (x.cps.toList.take i))), ("figures", cS x)]) I2 (by exact Src.str hA.handled (Exp.var rfl rfl rfl)) (.inl rfl) (fun i p γ' s' hp hγ I3 => ?_) (fun s' I4 => ?_) (fun v s' h => h.elim)
  · rw [List.getElem?_map] at hp
    cases hd : x.cps.toList[i]? with
    | none => rw [hd] at hp; cases hp
    | some d =>
      rw [hd] at hp; cases hp
      have hdig := hx d (List.mem_of_getElem? hd)
      refine W.assign I3 (.add (.mul .cInt (.var rfl rfl rfl) (.of_left (by decide +kernel))) (.index hA.handled .cStr (.var rfl rfl rfl) (by rw [find_dig' hdig]; have := hdig.1; omega))) (.inl rfl) (fun s₅ I5 => ?_)
      refine W.nil (I5.sub ?_)
      rw [List.take_add_one, hd]
      simp only [Option.toList_some, worthL_snoc, List.forall_mem_cons]
      rw [find_dig' hdig]
      refine ⟨rfl, rfl, by simp⟩
  · rw [List.length_map, List.take_length] at I4
    refine W.ret I4 (Exp.var rfl rfl rfl) (fun v s' e1 q => ⟨v, rfl, I4.toExt.trans e1, q⟩)
end Mine

namespace Mine

/-! ## map(int, list) -/
theorem slot_map_init : Slot "map" "__init__" "object.__init__" :=
  .of (owner := "object") (n := "__init__") (by rw [typeLookup_type, builtinLookup_eq_fast]; kernel_rfl) (by decide +kernel) (by decide +kernel) (by decide +kernel)
    (by first | exact .inl (by decide +kernel) | exact .inr (by decide +kernel)) (by rw [isSubtype_type]; kernel_rfl)
theorem slot_map_iter : Slot "map" "__iter__" "map.__iter__" :=
  .of (owner := "map") (n := "__iter__") (by rw [typeLookup_type, builtinLookup_eq_fast]; kernel_rfl) (by decide +kernel) (by decide +kernel) (by decide +kernel)
    (by first | exact .inl (by decide +kernel) | exact .inr (by decide +kernel)) (by rw [isSubtype_type]; kernel_rfl)
theorem slot_map_next : Slot "map" "__next__" "map.__next__" :=
  .of (owner := "map") (n := "__next__") (by rw [typeLookup_type, builtinLookup_eq_fast]; kernel_rfl) (by decide +kernel) (by decide +kernel) (by decide +kernel)
    (by first | exact .inl (by decide +kernel) | exact .inr (by decide +kernel)) (by rw [isSubtype_type]; kernel_rfl)
theorem args_map_iter_1 (a : Value) : argsOk "map.__iter__" ⟨[a], []⟩ := by unfold argsOk; kernel_rfl
theorem args_map_next_1 (a : Value) : argsOk "map.__next__" ⟨[a], []⟩ := by unfold argsOk; kernel_rfl
theorem entry_map_next : entryFor table "map.__next__" = some Builtin.«map.__next__» := entryFor_of_tree (by kernel_rfl)
theorem entry_map_new : entryFor table "map.__new__" = some Builtin.«map.__new__» := entryFor_of_tree (by kernel_rfl)
theorem entry_map_iter : entryFor table "map.__iter__" = some Builtin.«dict_keyiterator.__iter__» :=
  entryFor_alias (id' := "dict_keyiterator.__iter__") (by kernel_rfl) (by first | rfl | decide +kernel | (unfold String.splitOn; simp +decide [String.splitOnAux])) (by decide +kernel) (by kernel_rfl)
theorem mro_map : mroOf (.type "map") = pure [.type "map", .type "object"] := by rw [mroOf_type]; kernel_rfl
theorem lookup_map_new : typeLookup (.type "map") "__new__" = pure (some (.builtin "map.__new__")) := by rw [typeLookup_type, builtinLookup_eq_fast]; kernel_rfl
theorem called_map : TypeCalled "map" "map.__new__" "object.__init__" :=
  ⟨by decide +kernel, by decide +kernel, ⟨_, _, mro_map⟩, madeBy_type mro_map lookup_map_new (by decide +kernel), by decide +kernel, by rw [isSubtype_type]; kernel_rfl, slot_map_init⟩
theorem typeCall_map_2 (a b : Value) : checkTypeCall "map" ⟨[a, b], []⟩ = pure () := by kernel_rfl
theorem newCall_map_2 (a b : Value) : checkBuiltinCall "map.__new__" ⟨[.type "map", a, b], []⟩ = pure () := by kernel_rfl
theorem sub_map : isSubtype (.type "map") (.type "map") = pure true := by rw [isSubtype_type]; kernel_rfl

abbrev IsMap (h : Heap) (z T : Addr) (f : Value) : Prop := h.get? z = some { cls := .type "map", dict := none, data := .fields #[.ref T, f], slots := #[] }
abbrev IsOne (h : Heap) (T : Addr) (a : Value) : Prop := h.get? T = some { cls := .type "tuple", data := .seq #[a] }
abbrev mapH1 (h : Heap) (l : Addr) : Heap := h.push { cls := .type "list_iterator", data := .fields #[.ref l, .int 0 0] }
abbrev mapH2 (h : Heap) (l : Addr) : Heap := (mapH1 h l).push { cls := .type "tuple", data := .seq #[.ref h.objs.size] }
abbrev mapH3 (h : Heap) (l : Addr) (f : Value) : Heap := (mapH2 h l).push { cls := .type "map", data := .fields #[.ref (mapH1 h l).objs.size, f] }
theorem meets_map_new (f : Value) (l : Addr) (xs : Array Value) :
    Meets (Builtin.«map.__new__» ⟨[.type "map", f, .ref l], []⟩) (fun _ R s => s.heap.IsList l xs ∧ R (.ok (.ret (.ref (mapH2 s.heap l).objs.size))) { s with heap := mapH3 s.heap l f }) :=
  .of_wp fun prog w A R s h => by
    obtain ⟨hp, g, d, tk, os⟩ := s; obtain ⟨hl, h⟩ := h
    have hsub := sub_map
    have hL : Heap.IsList (Shared.heap ⟨hp, g, d, tk, os⟩) l xs := hl
    wp_walk using wpAny_pyIter_list hL
    exact ⟨_, rfl, h⟩
section
variable {prog : Program} {w : World} {A : Around} {E : Value → Shared → Prop} {s : Shared}
theorem call_map {f : Value} {l : Addr} {xs : Array Value} {Q : Value → Shared → Prop} (hl : s.heap.IsList l xs)
    (h : ∀ h', IsMap h' (s.heap.objs.size + 2) (s.heap.objs.size + 1) f → IsOne h' (s.heap.objs.size + 1) (.ref s.heap.objs.size) → h'.IsListIter s.heap.objs.size l 0 → KeepH s.heap h' → Q (.ref (s.heap.objs.size + 2)) { s with heap := h' }) :
    wpAny (model prog w) A (call (.type "map") [f, .ref l]) Q E s := by
  refine callType_new called_map (by decide) (typeCall_map_2 _ _) (newCall_map_2 _ _) (fun obj => F.args_object_init_3 obj _ _) entry_map_new (meets_map_new f l xs) ⟨hl, ?_⟩
  have z1 : (mapH1 s.heap l).objs.size = s.heap.objs.size + 1 := Heap.size_push ..
  have z2 : (mapH2 s.heap l).objs.size = s.heap.objs.size + 2 := by rw [Heap.size_push, z1]
  have g3 : (mapH3 s.heap l f).get? (mapH2 s.heap l).objs.size = some _ := Heap.get?_push_size _ rfl
  have g2 : (mapH3 s.heap l f).get? (mapH1 s.heap l).objs.size = some _ := Heap.get?_push_of_some _ (Heap.get?_push_size _ rfl)
  have g1 : (mapH3 s.heap l f).get? s.heap.objs.size = some _ := Heap.get?_push_of_some _ (Heap.get?_push_of_some _ (Heap.get?_push_size _ rfl))
  show _ ∧ _
  refine ⟨⟨_, g3, rfl⟩, ?_⟩
  rw [z2]
  refine h _ ?_ ?_ ⟨_, g1, rfl, rfl⟩ fun b o e => Heap.get?_push_of_some _ (Heap.get?_push_of_some _ (Heap.get?_push_of_some _ e))
  · rw [← z2, ← z1]; exact g3
  · rw [← z1]; exact g2
theorem pyIter_map {z T : Addr} {f : Value} {Q : Value → Shared → Prop} (hz : IsMap s.heap z T f) (h : Q (.ref z) s) : wpAny (model prog w) A (pyIter (.ref z)) Q E s := by
  have hT : s.TypeIs (.ref z) "map" := ⟨_, hz, rfl⟩
  refine wpAny_pyIter_slot hT slot_map_iter (wpAny_call_entry slot_map_iter hT entry_map_iter ?_ (args_map_iter_1 _))
  show wpAny _ _ (ret (.ref z)) _ _ s
  exact wpAny_pure ⟨_, rfl, "map", _, hT, slot_map_next.lookup, h⟩
end
end Mine

namespace Mine
section
variable {prog : Program} {w : World} {A : Around} {E : Value → Shared → Prop} {s : Shared}
/-- the next of map: the source's next item, handed to f -/
theorem pyNext_map_item {z T i l : Addr} {k : Nat} {xs : Array Value} {x f : Value} {Q : Option Value → Shared → Prop} (hz : IsMap s.heap z T f) (hT : IsOne s.heap T (.ref i)) (hi : s.heap.IsListIter i l k) (hl : s.heap.IsList l xs) (hx : xs[k]? = some x) (hiz : z ≠ i)
    (h : ∀ h', h'.IsListIter i l (k + 1) → Heap.SameBut i s.heap h' → wpAny (model prog w) A.in1 (call f [x]) (fun v s' => Q (some v) s') (fun e s' => wpAny (model prog w) A (do if ← isInstance e (.type "StopIteration") then pure none else throw e) Q E s') { s with heap := h' }) :
    wpAny (model prog w) A (pyNext (.ref z)) Q E s := by
  have hTz : s.TypeIs (.ref z) "map" := ⟨_, hz, rfl⟩
  unfold pyNext
  refine wpAny_bind (wpAny_attempt (wpAny_callSpecial?_slot (name := Str.ofString "__next__") hTz slot_map_next (wpAny_call_entry slot_map_next hTz entry_map_next ?_ (args_map_next_1 _))))
  show wpAny _ _ (field (.ref z) 0 >>= _) _ _ _
  refine wpAny_bind (wpAny_field hz rfl (x := .ref T) rfl ?_)
  refine wpAny_bind (wpAny_seqItems hT rfl ?_)
  dsimp only
  simp only [Array.forIn_toList.symm, List.forIn_cons, List.forIn_nil]
  refine wpAny_bind (wpAny_bind (wpAny_bind (wpAny_holding (wpAny_nextOf_list_item hi hl hx fun h' hi' hs' => wpAny_pure (wpAny_pure ?_)))))
  refine wpAny_bind (wpAny_field (x := f) (hs'.extBut _ _ hiz hz) rfl rfl ?_)
  refine wpAny_bind (wpAny_holding (wpAny_mono (h h' hi' hs') (fun v s' hv => ?_) fun _ _ y => y))
  exact wpAny_bind (wpAny_letGo (wpAny_pure ⟨v, rfl, wpAny_pure hv⟩))
theorem pyNext_map_end {z T i l : Addr} {k : Nat} {xs : Array Value} {f : Value} {Q : Option Value → Shared → Prop} (hh : A.handled = none) (hz : IsMap s.heap z T f) (hT : IsOne s.heap T (.ref i)) (hi : s.heap.IsListIter i l k) (hl : s.heap.IsList l xs) (hx : xs[k]? = none)
    (h : ∀ h', Heap.ExtBut i s.heap h' → Q none { s with heap := h' }) : wpAny (model prog w) A (pyNext (.ref z)) Q E s := by
  have hTz : s.TypeIs (.ref z) "map" := ⟨_, hz, rfl⟩
  unfold pyNext
  refine wpAny_bind (wpAny_attempt (wpAny_callSpecial?_slot (name := Str.ofString "__next__") hTz slot_map_next (wpAny_call_entry slot_map_next hTz entry_map_next ?_ (args_map_next_1 _))))
  show wpAny _ _ (field (.ref z) 0 >>= _) _ _ _
  refine wpAny_bind (wpAny_field hz rfl (x := .ref T) rfl ?_)
  refine wpAny_bind (wpAny_seqItems hT rfl ?_)
  dsimp only
  simp only [Array.forIn_toList.symm, List.forIn_cons, List.forIn_nil]
  refine wpAny_bind (wpAny_bind (wpAny_bind (wpAny_holding (wpAny_nextOf_list_end hh hi hl hx fun h' e hs' he => ?_))))
  obtain ⟨o, ho, hc⟩ := he
  refine wpAny_bind (wpAny_isInstance (T := "StopIteration") (b := true) ⟨o, ho, hc⟩ isSubtype_stop ?_)
  exact wpAny_pure (h _ hs')

end
end Mine

namespace Mine
/-! ## trees with the codes that lie above known -/
def wpO {α : Type} (M : Model) (S : List Code) (A : Around) (t : Sem α) (Q : α → Shared → Prop) (E : Value → Shared → Prop) (s : Shared) : Prop :=
  ∀ Γ p, Γ.In A → (∃ r, Γ.code :: Γ.below.map (·.1) = S ++ r) → Sem.wp M Γ t (fun a _ s' => Q a s') (fun e _ s' => E e s') p s
def codeO (M : Model) (S : List Code) (A : Around) (c : Code) (R : Result → Shared → Prop) (s : Shared) : Prop :=
  ∀ Γ p, Γ.code = c → Γ.Below A → (∃ r, Γ.below.map (·.1) = S ++ r) → wpCode M Γ R p s
section
variable {α β : Type} {M : Model} {S : List Code} {A : Around} {E : Value → Shared → Prop} {s : Shared}
theorem wpO_any {t : Sem α} {Q : α → Shared → Prop} (h : wpAny M A t Q E s) : wpO M S A t Q E s := fun Γ p hΓ _ => h Γ p hΓ
theorem wpO_mono {t : Sem α} {Q Q' : α → Shared → Prop} {E' : Value → Shared → Prop} (h : wpO M S A t Q E s) (hQ : ∀ a s, Q a s → Q' a s) (hE : ∀ e s, E e s → E' e s) : wpO M S A t Q' E' s :=
  fun Γ p hΓ hS => Sem.wp_mono M Γ t (fun a _ s => hQ a s) (fun e _ s => hE e s) p s (h Γ p hΓ hS)
theorem wpO_bind {m : Sem α} {f : α → Sem β} {Q : β → Shared → Prop} (h : wpO M S A m (fun a s' => wpO M S A (f a) Q E s') E s) : wpO M S A (m >>= f) Q E s := fun Γ p hΓ hS => by
  rw [Sem.wp_bind']
  exact Sem.wp_mono M Γ m (fun a p' s' h' => h' Γ p' hΓ hS) (fun _ _ _ h' => h') p s (h Γ p hΓ hS)
/-- a first part that does not look at the stack -/
theorem wpO_step {m : Sem α} {f : α → Sem β} {Q : β → Shared → Prop} (h : wpAny M A m (fun a s' => wpO M S A (f a) Q E s') E s) : wpO M S A (m >>= f) Q E s := wpO_bind (wpO_any h)
theorem wpO_holding {vs : List Value} {m : Sem α} {Q : α → Shared → Prop} (h : wpO M S A m Q E s) : wpO M S A (holding vs m) Q E s := fun Γ p hΓ hS => by
  rw [Sem.wp_holding]; exact h Γ p hΓ hS
theorem wpO_call {f : Value} {pos : List Value} {kw : List (Str × Value)} {Q : Value → Shared → Prop}
    (hc : codeO M S A (.call f ⟨pos, kw⟩) (fun r s' => match r with | .ok (.ret v) => Q v s' | .ok _ => False | .error e => E e s') s) : wpO M S A (call f pos kw) Q E s := fun Γ p hΓ hS => by
  show Sem.wp M Γ (runValue _) _ _ p s
  rw [Sem.wp_runValue]
  exact hc _ p rfl (hΓ.enter _ none p (by intro x; cases x)) hS
theorem codeO_tree {c : Code} {R : Result → Shared → Prop}
    (h : wpO M (c :: S) (A.under c) (M.den c) (fun fin s' => match fin with | .done f => R (.ok f) s' | .again c' => c'.quiet = true ∧ codeO M S A c' R s') (fun e s' => R (.error e) s') s) : codeO M S A c R s := fun Γ p hc hΓ hS => by
  rw [wpCode_iff_wp, hc]
  obtain ⟨r, hr⟩ := hS
  refine Sem.wp_mono M Γ _ (fun fin p' s' h' => ?_) (fun _ _ _ h' => h') p s (h Γ p (hc ▸ hΓ.in) ⟨r, by rw [hc, hr]; rfl⟩)
  cases fin with
  | done f => exact h'
  | again c' => exact ⟨h'.1, h'.2 (Γ.goto c') p' rfl (hΓ.goto c') ⟨r, hr⟩⟩
theorem codeAny_of_O {c : Code} {R : Result → Shared → Prop} (h : codeO M [] A c R s) : codeAny M A c R s := fun Γ p hc hΓ => h Γ p hc hΓ ⟨_, rfl⟩
theorem codeO_mono {c : Code} {R R' : Result → Shared → Prop} (h : codeO M S A c R s) (hR : ∀ r s, R r s → R' r s) : codeO M S A c R' s := fun Γ p hc hΓ hS => wpCode_mono hR (h Γ p hc hΓ hS)
theorem wpO_stack {f : List (Code × Pos) → Sem β} {Q : β → Shared → Prop} (h : ∀ st, (∃ r, st.map (·.1) = S ++ r) → wpO M S A (f st) Q E s) : wpO M S A (stack >>= f) Q E s := fun Γ p hΓ hS => by
  rw [Sem.wp_bind']
  exact h ((Γ.code, p) :: Γ.below) hS Γ p hΓ hS
end
section
variable {prog : Program} {w : World} {S : List Code} {A : Around} {E : Value → Shared → Prop} {s : Shared} {R : Result → Shared → Prop}
theorem codeO_builtin {id : String} {args : Args} {b : Builtin} (hb : entryFor table id = some b)
    (h : wpO (model prog w) (.builtin id args :: S) (A.under (.builtin id args)) (b args) (fun fin s' => match fin with | .done f => R (.ok f) s' | .again c' => c'.quiet = true ∧ codeO (model prog w) S A c' R s') (fun e s' => R (.error e) s') s) :
    codeO (model prog w) S A (.builtin id args) R s := by
  refine codeO_tree ?_
  show wpO _ _ _ (match entryFor table id with | some b => b args | none => unsupported ((withoutEnding? id "#data").getD id)) _ _ s
  rw [hb]; exact h
theorem codeO_call_builtin {id : String} {args : Args} (hq : (Code.builtin id args).quiet = true) (hchk : checkBuiltinCall id args = pure ())
    (h : codeO (model prog w) S A (.builtin id args) R s) : codeO (model prog w) S A (.call (.builtin id) args) R s := by
  refine codeO_tree ?_
  show wpO _ _ _ (do checkBuiltinCall id args; again (.builtin id args)) _ _ s
  rw [hchk]
  exact wpO_step (wpAny_pure (wpO_any (wpAny_pure ⟨hq, h⟩)))
theorem codeO_call_type {T : String} {args : List Value} (h : codeO (model prog w) S A (.builtin "type.__call__" ⟨.type T :: args, []⟩) R s) : codeO (model prog w) S A (.call (.type T) ⟨args, []⟩) R s := by
  refine codeO_tree ?_
  show wpO _ _ _ (callAny (.type T) _) _ _ _
  exact wpO_any (wpAny_pure ⟨Code.quiet_builtin _ (by decide +kernel), h⟩)
/-- the refusal is made by map's own code: no mark is left -/
theorem noMark {own : List String} {z : Value} {r : Value} {a1 a2 : Args} {Q : Unit → Shared → Prop} (how : own.contains "map.__next__" = false) (h : Q () s) :
    wpO (model prog w) [.builtin "int.__new__" a1, .builtin "type.__call__" a2, .builtin "map.__next__" ⟨[z], []⟩] A (markTheRefusal own r) Q E s := by
  unfold markTheRefusal
  refine wpO_stack fun st ⟨rr, hr⟩ => ?_
  have e : pythonCodeMadeTheCall own (st.map (·.1)) = false := by
    rw [hr]
    unfold pythonCodeMadeTheCall
    refine Bool.and_eq_false_iff.mpr (.inr (List.all_eq_false.mpr ⟨.builtin "map.__next__" ⟨[z], []⟩, ?_, ?_⟩))
    · show _ ∈ Code.builtin "int.__new__" a1 :: Code.builtin "type.__call__" a2 :: Code.builtin "map.__next__" ⟨[z], []⟩ :: rr.takeWhile (·.env?.isNone)
      exact .tail _ (.tail _ (.head _))
    · have h2 : ("map.__next__" == "type.__call__") = false := by decide
      simp only [how, h2, Bool.false_and, Bool.or_false]
      decide
  rw [e]
  exact wpO_any (wpAny_pure h)
end
end Mine

namespace Mine
section
variable {prog : Program} {w : World} {S : List Code} {A : Around} {E : Value → Shared → Prop} {s : Shared} {R : Result → Shared → Prop}
open NumText
theorem wpO_no {α : Type} {M : Model} {c : Prop} [Decidable c] {t e : Sem α} {Q : α → Shared → Prop} (hc : ¬ c) (h : wpO M S A e Q E s) : wpO M S A (if c then t else e) Q E s := by rw [if_neg hc]; exact h
theorem wpO_yes {α : Type} {M : Model} {c : Prop} [Decidable c] {t e : Sem α} {Q : α → Shared → Prop} (hc : c) (h : wpO M S A t Q E s) : wpO M S A (if c then t else e) Q E s := by rw [if_pos hc]; exact h
theorem int_bad {x : Str} {u : Tok} {z : Value} {a1 a2 : Args} {Q : Fin → Shared → Prop} (hh : A.handled = none) (hl : x.length ≤ 640) (hc : ∀ d ∈ x.cps.toList, d < 128) (hn : PySem.intText? x = none) (hseen : (numSeenOf x).length = (numTextOf x).length)
    (h : ∀ h' tk e, Heap.NewExc s.heap h' e "ValueError" → E (.ref e) { s with heap := h', toks := tk }) :
    wpO (model prog w) [.builtin "int.__new__" a1, .builtin "type.__call__" a2, .builtin "map.__next__" ⟨[z], []⟩] A (Builtin.«int.__new__» ⟨[.type "int", .str x u], []⟩) Q E s := by
  have f1 := F.conv_sub_int
  have f2 := F.madeHere_int
  have f3 := KIN.str_int
  have f4 := KIN.str_idx
  have f5 := KIN.str_trunc
  have f6 : typeOf (.str x u) = pure (.type "str") := rfl
  have hs : (numSeenOf x).length ≤ 640 := Nat.le_trans (seen_length x) hl
  have hr : (int_private% "readNumeral") 0 10 (numSeenOf x) = (int_private% "Numeral.invalid") := by
    rcases read0 x hs with ⟨m, h1, h2, h3⟩ | ⟨h1, h2 | ⟨i, h2, h3⟩⟩
    · rw [hn] at h1; cases h1
    · exact h2
    · rw [hseen] at h3; simp at h3
  unfold Builtin.«int.__new__»
  dsimp only
  refine wpO_step (wpAny_pure (a := true) ?_)
  refine wpO_no (by decide) (wpO_step (wpAny_of_eq f1 ?_))
  refine wpO_no (by decide) (wpO_step (wpAny_of_eq f2 ?_))
  refine wpO_no (by simp) (wpO_no (by simp) (wpO_step (wpAny_pure ?_)))
  show wpO _ _ _ ((int_private% "intFromObject") (.str x u) >>= _) _ _ _
  refine wpO_bind (wpO_mono (Q := fun _ _ => False) (E := E) ?_ (fun _ _ x => x.elim) fun _ _ x => x)
  refine wpO_step (wpAny_callSpecial?_none (typeIs_str _ _ _) f3 ?_)
  refine wpO_step (wpAny_specialOf (typeIs_str _ _ _) f4 ?_)
  refine wpO_no (by decide) (wpO_step (wpAny_specialOf (typeIs_str _ _ _) f5 ?_))
  show wpO _ _ _ ((int_private% "numeralText?") (.str x u) >>= _) _ _ _
  refine wpO_step (wpAny_pure (a := some (numTextOf x)) ?_)
  show wpO _ _ _ ((int_private% "intFromText") (.str x u) (numTextOf x) 10) _ _ _
  refine wpO_yes (c := (numSeenOf x).length ≤ 640) hs (wpO_step (wpAny_pure ?_))
  have hr' : (int_private% "readNumeral") 0 10 ((numTextOf x).takeWhile (· != 0)) = (int_private% "Numeral.invalid") := hr
  dsimp only
  rw [hr']
  dsimp only
  refine wpO_step (wpAny_pure (a := none) ?_)
  refine wpO_no (by simp) (wpO_step (wpAny_rule (wpO_step (wpAny_pure (a := none) ?_))))
  dsimp only
  refine wpO_step (wpAny_pyRepr_str ?_ ?_)
  · refine wpO_step (wpAny_mkStr ?_ ?_)
    · refine wpO_step (wpAny_newExc_plain plainExc_ValueError (fun h' e he => ?_))
      exact wpO_bind (noMark (by decide) (wpO_any (wpAny_raiseNew_none hh (h _ _ _ he.newExc))))
    · rw [Str.length_append]
      have h1 : (Str.ofString (toString "invalid literal for int() with base " ++ toString 10 ++ toString ": ")).length ≤ 1000 := by decide +kernel
      have h2 : ({ cps := (reprText x).cps.extract 0 200 } : Str).length ≤ 200 := by
        show ((reprText x).cps.extract 0 200).size ≤ 200
        rw [Array.size_extract]; omega
      unfold sizeLine; omega
  · have := PySem.StrLaws.reprText_len x fun d hd => Nat.lt_of_lt_of_le (hc d hd) (by decide)
    unfold sizeLine; omega

theorem mro_int : mroOf (.type "int") = pure [.type "int", .type "object"] := by rw [mroOf_type]; kernel_rfl
theorem entry_int_new' : entryFor table "int.__new__" = some Builtin.«int.__new__» := entryFor_of_tree (by kernel_rfl)
theorem madeBy_int : Bind.madeBy (.type "int") = pure (some "int.__new__") := madeBy_type mro_int (by rw [typeLookup_type, builtinLookup_eq_fast]; kernel_rfl) (by decide +kernel)
theorem typeCall_int_1 (a : Value) : checkTypeCall "int" ⟨[a], []⟩ = pure () := by kernel_rfl
theorem newCall_int_1 (a : Value) : checkBuiltinCall "int.__new__" ⟨[.type "int", a], []⟩ = pure () := by kernel_rfl
theorem create_int : ((Manifest.find? "int").bind (·.mro.findSome? fun t => (Manifest.find? t).bind fun b => if b.noNew then some true else if b.attrs.any (·.1 == "__new__") then some false else none)).getD false = false := by decide +kernel
/-- int(text) inside map: a text that int refuses -/
theorem map_int_bad {x : Str} {u : Tok} {z : Value} {Q : Value → Shared → Prop} (hh : A.handled = none) (hl : x.length ≤ 640) (hc : ∀ d ∈ x.cps.toList, d < 128) (hn : PySem.intText? x = none) (hseen : (numSeenOf x).length = (numTextOf x).length)
    (h : ∀ h' tk e, Heap.NewExc s.heap h' e "ValueError" → E (.ref e) { s with heap := h', toks := tk }) :
    wpO (model prog w) [.builtin "map.__next__" ⟨[z], []⟩] A (call (.type "int") [.str x u]) Q E s := by
  refine wpO_call (codeO_call_type (codeO_builtin F.entry_type_call ?_))
  unfold Builtin.«type.__call__»
  dsimp only
  refine wpO_no (by decide) ?_
  refine wpO_no (by rw [create_int]; decide) ?_
  refine wpO_step (wpAny_of_eq (typeCall_int_1 _) ?_)
  refine wpO_step (wpAny_of_eq mro_int ?_)
  refine wpO_no (by decide) ?_
  refine wpO_step (wpAny_of_eq madeBy_int ?_)
  dsimp only
  refine wpO_step (wpAny_pure (wpO_bind (wpO_holding (wpO_call (codeO_call_builtin (Code.quiet_builtin _ (by decide +kernel)) (newCall_int_1 _) (codeO_builtin entry_int_new' ?_))))))
  exact wpO_mono (int_bad (Q := fun _ _ => False) hh hl hc hn hseen h) (fun _ _ x => x.elim) fun _ _ x => x
/-- the next of map over int: the text that comes is refused -/
theorem pyNext_map_bad {z T i l : Addr} {k : Nat} {xs : Array Value} {x : Str} {u : Tok} {Q : Option Value → Shared → Prop} (hh : A.handled = none) (hz : IsMap s.heap z T (.type "int")) (hT : IsOne s.heap T (.ref i)) (hi : s.heap.IsListIter i l k) (hlst : s.heap.IsList l xs) (hx : xs[k]? = some (.str x u)) (hiz : z ≠ i)
    (hl : x.length ≤ 640) (hc : ∀ d ∈ x.cps.toList, d < 128) (hn : PySem.intText? x = none) (hseen : (numSeenOf x).length = (numTextOf x).length)
    (h : ∀ h' e tk, Heap.ExtBut i s.heap h' → (∃ ob t, h'.get? e = some ob ∧ ob.cls = .type "ValueError" ∧ ob.data = .fields #[t, .none, .none, .none, .bool false, .none]) → s.heap.get? e = none → E (.ref e) { s with heap := h', toks := tk }) :
    wpAny (model prog w) A (pyNext (.ref z)) Q E s := by
  have hTz : s.TypeIs (.ref z) "map" := ⟨_, hz, rfl⟩
  unfold pyNext
  refine wpAny_bind (wpAny_attempt (wpAny_callSpecial?_slot (name := Str.ofString "__next__") hTz slot_map_next ?_))
  refine wpAny_call (codeAny_call_builtin_code (plainId_quiet slot_map_next.plain _) (slot_map_next.check _ _ _ _ _ _ _ _ hTz (args_map_next_1 _) (codeAny_of_O (codeO_builtin entry_map_next ?_))))
  show wpO _ _ _ (field (.ref z) 0 >>= _) _ _ _
  refine wpO_step (wpAny_field hz rfl (x := .ref T) rfl ?_)
  refine wpO_step (wpAny_seqItems hT rfl ?_)
  dsimp only
  simp only [Array.forIn_toList.symm, List.forIn_cons, List.forIn_nil]
  refine wpO_step (wpAny_bind (wpAny_bind (wpAny_holding (wpAny_nextOf_list_item hi hlst hx fun h' hi' hs' => wpAny_pure (wpAny_pure ?_)))))
  refine wpO_step (wpAny_field (x := .type "int") (hs'.extBut _ _ hiz hz) rfl rfl ?_)
  refine wpO_bind (wpO_holding (map_int_bad (z := .ref z) hh hl hc hn hseen fun h'' tk e he => ?_))
  obtain ⟨ob, t, ho, hcl, hd⟩ := he.there
  refine wpAny_bind (wpAny_isInstance (T := "ValueError") (b := false) ⟨ob, ho, hcl⟩ (isSubtype_of_subB (by decide +kernel)) ?_)
  refine wpAny_throw (h _ _ _ (fun b o hb e' => he.keeps b o (hs'.extBut b o hb e')) ⟨ob, t, ho, hcl, hd⟩ ?_)
  cases hg : s.heap.get? e with
  | none => rfl
  | some o =>
    by_cases hei : e = i
    · subst hei
      obtain ⟨oi, hoi, _⟩ := hi'
      rw [he.new] at hoi; cases hoi
    · have := hs'.extBut e o hei hg
      rw [he.new] at this; cases this
end
end Mine

namespace Mine
/-- short plain texts -/
def TxtOk (x : Str) : Prop := x.length ≤ 640 ∧ ∀ d ∈ x.cps.toList, 0 < d ∧ d < 128
theorem TxtOk.seen {x : Str} (h : TxtOk x) : (numSeenOf x).length = (numTextOf x).length := by
  have hall : x.cps.all (· < 128) = true := by
    rw [Array.all_eq_true]
    intro i hi
    exact decide_eq_true (h.2 _ (by simp)).2
  have e : numTextOf x = x.cps.toList := by unfold numTextOf; rw [if_pos hall]
  show ((numTextOf x).takeWhile (· != 0)).length = _
  rw [e]
  congr 1
  refine PySem.NumText.takeWhile_all fun d hd => ?_
  have := (h.2 d hd).1
  simp only [bne_iff_ne, ne_eq]; omega
/-- what line, col = map(int, parts) gives -/
def lcOf : List Str → Option (Int × Int)
  | [a, b] => match PySem.intText? a, PySem.intText? b with
    | some m, some n => some (m, n)
    | _, _ => none
  | _ => none
structure MapAt (h : Heap) (z T i l : Addr) (k : Nat) (xs : Array Value) : Prop where
  mz : IsMap h z T (.type "int")
  mT : IsOne h T (.ref i)
  mi : h.IsListIter i l k
  ml : h.IsList l xs
  zi : z ≠ i
  Ti : T ≠ i
  li : l ≠ i
theorem MapAt.but {h h' : Heap} {z T i l : Addr} {k k' : Nat} {xs : Array Value} (x : MapAt h z T i l k xs) (e : Heap.ExtBut i h h') (hi : h'.IsListIter i l k') : MapAt h' z T i l k' xs :=
  ⟨e _ _ x.zi x.mz, e _ _ x.Ti x.mT, hi, x.ml.extBut e x.li, x.zi, x.Ti, x.li⟩
/-- a ValueError, new -/
def NewVE (h h' : Heap) (e : Addr) : Prop := h.get? e = none ∧ ∃ ob t, h'.get? e = some ob ∧ ob.cls = .type "ValueError" ∧ ob.data = .fields #[t, .none, .none, .none, .bool false, .none]
theorem none_from {h₀ h : Heap} {e : Addr} (k : KeepH h₀ h) (x : h.get? e = none) : h₀.get? e = none := by
  cases hg : h₀.get? e with
  | none => rfl
  | some o => have := k e o hg; rw [x] at this; cases this
theorem NewVE.from {h₀ h h' : Heap} {e : Addr} (x : NewVE h h' e) (k : KeepH h₀ h) : NewVE h₀ h' e := ⟨none_from k x.1, x.2⟩
theorem keep_but {i : Addr} {h₀ h h' : Heap} (k : KeepH h₀ h) (hi : h₀.get? i = none) (e : Heap.ExtBut i h h') : KeepH h₀ h' := fun b o q => e b o (by rintro rfl; rw [hi] at q; cases q) (k b o q)
section
variable {prog : Program} {w : World} {A : Around} {E : Value → Shared → Prop} {s : Shared}
theorem MapAt.next {z T i l : Addr} {k : Nat} {xs : Array Value} {Q : Option Value → Shared → Prop} (hh : A.handled = none) (m : MapAt s.heap z T i l k xs) (hok : ∀ v ∈ xs, ∃ x u, v = .str x u ∧ TxtOk x)
    (hitem : ∀ x u n, xs[k]? = some (.str x u) → PySem.intText? x = some n → ∀ h' tk t, MapAt h' z T i l (k + 1) xs → Heap.ExtBut i s.heap h' → Q (some (.int n t)) { s with heap := h', toks := tk })
    (hend : xs[k]? = none → ∀ h', Heap.ExtBut i s.heap h' → Q none { s with heap := h' })
    (hbad : ∀ x u, xs[k]? = some (.str x u) → PySem.intText? x = none → ∀ h' tk e, Heap.ExtBut i s.heap h' → NewVE s.heap h' e → E (.ref e) { s with heap := h', toks := tk }) : wpAny (model prog w) A (pyNext (.ref z)) Q E s := by
  cases hx : xs[k]? with
  | none => exact pyNext_map_end hh m.mz m.mT m.mi m.ml hx (hend hx)
  | some v =>
    obtain ⟨x, u, rfl, hok'⟩ := hok v (Array.mem_of_getElem? hx)
    cases hn : PySem.intText? x with
    | none => exact pyNext_map_bad hh m.mz m.mT m.mi m.ml hx m.zi hok'.1 (fun d hd => (hok'.2 d hd).2) hn hok'.seen fun h' e tk hk ho hnew => hbad x u hx hn h' tk e hk ⟨hnew, ho⟩
    | some n =>
      refine pyNext_map_item m.mz m.mT m.mi m.ml hx m.zi fun h' hi' hs' => ?_
      refine KIN.call_text hn hok'.1 ?_
      exact hitem x u n hx hn h' _ _ (m.but hs'.extBut hi') hs'.extBut

theorem unpack_map {z T i l : Addr} {ts : List (Str × Tok)} {h₀ : Heap} {Q : List Value → Shared → Prop} (hh : A.handled = none) (m : MapAt s.heap z T i l 0 (strValues ts).toArray) (hok : ∀ x ∈ ts, TxtOk x.1) (hk₀ : KeepH h₀ s.heap) (hi₀ : h₀.get? i = none)
    (hQ : ∀ a b, lcOf (ts.map (·.1)) = some (a, b) → ∀ h' tk t t', KeepH h₀ h' → Q [.int a t, .int b t'] { s with heap := h', toks := tk })
    (hE : lcOf (ts.map (·.1)) = none → ∀ h' tk e, KeepH h₀ h' → NewVE h₀ h' e → E (.ref e) { s with heap := h', toks := tk }) : wpAny (model prog w) A (unpackItems (.ref z) 2 none) Q E s := by
  have hok' : ∀ v ∈ (strValues ts).toArray, ∃ x u, v = .str x u ∧ TxtOk x := by
    intro v hv
    rw [List.mem_toArray] at hv
    unfold strValues at hv
    obtain ⟨p, hp, rfl⟩ := List.mem_map.mp hv
    exact ⟨_, _, rfl, hok p hp⟩
  have hget : ∀ (k : Nat) (x : Str) (u : Tok), (strValues ts).toArray[k]? = some (Value.str x u) → ts[k]? = some (x, u) := by
    intro k x u h
    rw [List.getElem?_toArray] at h
    unfold strValues at h
    rw [List.getElem?_map] at h
    cases hk : ts[k]? with
    | none => rw [hk] at h; cases h
    | some p => rw [hk] at h; cases h; rfl
  have hnone : ∀ k : Nat, (strValues ts).toArray[k]? = none → ts.length ≤ k := by
    intro k h
    rw [List.getElem?_toArray] at h
    unfold strValues at h
    rw [List.getElem?_map] at h
    cases hk : ts[k]? with
    | none => exact List.getElem?_eq_none_iff.mp hk
    | some p => rw [hk] at h; cases h
  unfold unpackItems
  refine wpAny_bind ?_
  unfold notIterableAtAll
  have hTz : s.TypeIs (.ref z) "map" := ⟨_, m.mz, rfl⟩
  refine wpAny_bind (wpAny_specialOf hTz slot_map_iter.lookup ?_)
  refine wpAny_pure ?_
  simp only [Bool.false_eq_true, if_false]
  refine wpAny_bind (wpAny_holding (pyIter_map m.mz ?_))
  have bad1 : ∀ x u, ts[0]? = some (x, u) → PySem.intText? x = none → lcOf (ts.map (·.1)) = none := by
    intro x u h1 h2
    match ts, h1 with
    | [_, b], h1 => cases h1; simp only [List.map_cons, List.map_nil, lcOf, h2]
    | [], h1 => cases h1
    | [_], _ => rfl
    | _ :: _ :: _ :: _, _ => rfl
  have bad2 : ∀ x u, ts[1]? = some (x, u) → PySem.intText? x = none → lcOf (ts.map (·.1)) = none := by
    intro x u h1 h2
    match ts, h1 with
    | [a, _], h1 => cases h1; simp only [List.map_cons, List.map_nil, lcOf, h2]; split <;> simp_all
    | [], h1 => cases h1
    | [_], _ => rfl
    | _ :: _ :: _ :: _, _ => rfl
  have len2 : ts.length ≠ 2 → lcOf (ts.map (·.1)) = none := by
    intro h
    match ts, h with
    | [a, _], h => exact absurd rfl h
    | [], h => rfl
    | [_], _ => rfl
    | _ :: _ :: _ :: _, _ => rfl
  show wpAny _ _ (holding [.ref z] (draw (.ref z) 2) >>= _) _ _ _
  refine wpAny_bind (wpAny_holding ?_)
  show wpAny _ _ (pyNext (.ref z) >>= _) _ _ _
  refine wpAny_bind (m.next hh hok' (fun x u n hx hn h' tk t m1 k1 => ?_) (fun hx h' k1 => ?_) fun x u hx hn h' tk e k1 he => hE (bad1 x u (hget _ _ _ hx) hn) h' tk e (keep_but hk₀ hi₀ k1) (he.from hk₀))
  · have k1' := keep_but hk₀ hi₀ k1
    refine wpAny_bind (wpAny_holding ?_)
    show wpAny _ _ (pyNext (.ref z) >>= _) _ _ _
    refine wpAny_bind (m1.next hh hok' (fun x2 u2 n2 hx2 hn2 h2 tk2 t2 m2 k2 => ?_) (fun hx2 h2 k2 => ?_) fun x2 u2 hx2 hn2 h2 tk2 e k2 he => hE (bad2 x2 u2 (hget _ _ _ hx2) hn2) h2 tk2 e (keep_but k1' hi₀ k2) (he.from k1'))
    · have k2' := keep_but k1' hi₀ k2
      refine wpAny_bind (wpAny_holding (wpAny_pure (wpAny_pure (wpAny_pure ?_))))
      rw [if_neg (by simp)]
      refine wpAny_bind (wpAny_holding (m2.next hh hok' (fun x3 u3 n3 hx3 hn3 h3 tk3 t3 m3 k3 => ?_) (fun hx3 h3 k3 => ?_) fun x3 u3 hx3 hn3 h3 tk3 e k3 he => ?_))
      · have k3' := keep_but k2' hi₀ k3
        have hl : lcOf (ts.map (·.1)) = none := len2 (by have := (List.getElem?_eq_some_iff.mp (hget _ _ _ hx3)).1; omega)
        refine wpAny_bind (wpAny_rule (wpAny_bind ?_))
        refine wpAny_raiseErrorMade plainExc_ValueError hh (fun h'' tk' e he => hE hl h'' tk' e (fun b o q => he.keeps b o (k3' b o q)) ⟨none_from k3' he.new, he.there⟩) (by decide +kernel)
      · have k3' := keep_but k2' hi₀ k3
        have hl : ts.length = 2 := by
          have h1 := hnone _ hx3
          have h2 := (List.getElem?_eq_some_iff.mp (hget _ _ _ hx2)).1
          omega
        have hlc : lcOf (ts.map (·.1)) = some (n, n2) := by
          have g1 := hget _ _ _ hx
          have g2 := hget _ _ _ hx2
          match ts, hl, g1, g2 with
          | [a, b], _, g1, g2 => cases g1; cases g2; simp only [List.map_cons, List.map_nil, lcOf, hn, hn2]
        exact wpAny_pure (hQ n n2 hlc _ _ _ _ k3')
      · have hl : lcOf (ts.map (·.1)) = none := len2 (by have := (List.getElem?_eq_some_iff.mp (hget _ _ _ hx3)).1; omega)
        exact hE hl h3 tk3 e (keep_but k2' hi₀ k3) (he.from k2')
    · have k2' := keep_but k1' hi₀ k2
      have hl : lcOf (ts.map (·.1)) = none := len2 (by have := hnone _ hx2; omega)
      refine wpAny_pure (wpAny_pure ?_)
      rw [if_pos (by simp)]
      refine wpAny_bind (wpAny_rule (wpAny_bind ?_))
      refine wpAny_raiseErrorMade plainExc_ValueError hh (fun h'' tk' e he => hE hl h'' tk' e (fun b o q => he.keeps b o (k2' b o q)) ⟨none_from k2' he.new, he.there⟩) (by show (Str.ofString (toString "not enough values to unpack (expected " ++ toString 2 ++ toString ", got " ++ toString 1 ++ toString ")")).length ≤ sizeLine; decide +kernel)
  · have k1' := keep_but hk₀ hi₀ k1
    have hl : lcOf (ts.map (·.1)) = none := len2 (by have := hnone _ hx; omega)
    refine wpAny_pure ?_
    rw [if_pos (by simp)]
    refine wpAny_bind (wpAny_rule (wpAny_bind ?_))
    refine wpAny_raiseErrorMade plainExc_ValueError hh (fun h'' tk' e he => hE hl h'' tk' e (fun b o q => he.keeps b o (k1' b o q)) ⟨none_from k1' he.new, he.there⟩) (by decide +kernel)
end
end Mine

namespace Mine
section
variable {c : Cx} {σ σ' : List (Str × Ct)} {γ : Gh} {s : Shared} {rest : List Stmt} {Q : Flow → Shared → Prop} {E : Value → Shared → Prop}
/-- map(int, o.split(y)): the map stands at the end of the heap -/
theorem mapSplit {o e : PySem.Expr} {np ip apos spos pos : Pos} {x y : Str} {Q : Value → Shared → Prop} {E : Value → Shared → Prop} (I : Inv c σ γ s) (ho : Exp c σ γ o (vS x)) (he : Exp c σ γ e (vS y)) (hy : (y.length == 0) = false) (hx : x.length ≤ 640)
    (h : ∀ z T i l ts s', Ext s s' → MapAt s'.heap z T i l 0 (strValues ts).toArray → ts.map (·.1) = Txt.split x y → s.heap.get? i = none → Q (.ref z) s')
    (hb : nsIn c.K mainGlobals "map" = some none) (hk : c.env.kindOf "map" = some .globalImplicit) (hb' : nsIn c.K mainGlobals "int" = some none) (hk' : c.env.kindOf "int" = some .globalImplicit)
    (hs : isStarred e = false := by rfl) (hbase : attributeBase o "split" c.env (eval o c.env) = eval o c.env := by rfl) (hline : (apos.endLine == spos.line) = true := by rfl) :
    wpAny c.M c.A (eval (.Call (.Name "map" np) [.Name "int" ip, .Call (.Attribute o "split" apos) [e] [] spos] [] pos) c.env) Q E s := by
  refine wpAny_Call_NameR (nameB I hb (v := .type "map") (by decide +kernel) hk ?_)
  rw [starEach_cons rfl, starEach_cons rfl]
  refine PySem.callWith_type rfl (evalArgs_plain (spliced_cons (nameB I hb' (v := .type "int") (by decide +kernel) hk' (spliced_cons ?_))))
  refine meth1_raw (c := c) F.plainAttrs_str F.slot_str_split F.type_str_split (wpAny_mono (ho s I) (fun ov s₁ ⟨e1, t, q⟩ => ?_) fun _ _ x => x.elim) hs hbase hline
  subst q
  refine ⟨typeIs_str _ _ _, (fun a e => by cases e), wpAny_mono (he s₁ (I.ext e1)) (fun v s₂ ⟨e2, u, q⟩ => ?_) fun _ _ x => x.elim⟩
  subst q
  refine PySem.SCH.split1 (P := KeepH s₂.heap) (fun _ _ p b o q => Heap.get?_push_of_some _ (p b o q)) (fun _ _ q => q) hy (fun D l h' k hl hk hD => ?_) (by unfold sizeLine; omega) ?_
  · refine spliced_nil ?_
    refine call_map hD fun h'' hz hT hi hk2 => ?_
    refine h _ _ _ _ l _ ?_ ⟨hz, hT, hi, ?_, ?_, ?_, ?_⟩ hl ?_
    · exact (e1.trans e2).trans ⟨fun b o q => hk2 b o (hk b o q), rfl⟩
    · obtain ⟨o, ho, r⟩ := hD; exact ⟨o, hk2 _ _ ho, r⟩
    · show h'.objs.size + 2 ≠ h'.objs.size; omega
    · show h'.objs.size + 1 ≠ h'.objs.size; omega
    · obtain ⟨o, ho, r⟩ := hD; exact Nat.ne_of_lt (Heap.lt_size ho)
    · refine none_from (h := h') (fun b o q => hk b o (e2.keep b o (e1.keep b o q))) (Heap.get?_none_of_le (Nat.le_refl _))
  · have h1 := PySem.StrLaws.occ_length_le x y 0 x.length (x.length + 1)
    rw [PySem.length_partsBetween]; unfold sizeLine; omega
/-- a, b = map(int, o.split(y)) -/
theorem W.mapInt {o e : PySem.Expr} {np ip apos spos cpos pos tpos : Pos} {tk : Nat} {x y : Str} {n1 n2 : Str} {p1 p2 : Pos} (hh : c.A.handled = none) (I : Inv c σ γ s) (ho : Exp c σ γ o (vS x)) (he : Exp c σ γ e (vS y)) (hy : (y.length == 0) = false) (hx : x.length ≤ 640)
    (hok : ∀ p ∈ Txt.split x y, TxtOk p) (h1 : Sto c n1) (h2 : Sto c n2)
    (k : ∀ m n, lcOf (Txt.split x y) = some (m, n) → ∀ s', Inv c ((n2, cI n) :: (n1, cI m) :: σ) γ s' → W c rest Q E s')
    (kE : lcOf (Txt.split x y) = none → ∀ s' e, Ext s s' → NewVE s.heap s'.heap e → E (.ref e) s')
    (hb : nsIn c.K mainGlobals "map" = some none) (hk : c.env.kindOf "map" = some .globalImplicit) (hb' : nsIn c.K mainGlobals "int" = some none) (hk' : c.env.kindOf "int" = some .globalImplicit)
    (hs : isStarred e = false := by rfl) (hbase : attributeBase o "split" c.env (eval o c.env) = eval o c.env := by rfl) (hline : (apos.endLine == spos.line) = true := by rfl)
    (hsw : swapsWithSole [.Tuple [.Name n1 p1, .Name n2 p2] tk tpos] (.Call (.Name "map" np) [.Name "int" ip, .Call (.Attribute o "split" apos) [e] [] spos] [] cpos) pos.line c.env = pure false := by rfl)
    (hw : swappedStores [.Tuple [.Name n1 p1, .Name n2 p2] tk tpos] (.Call (.Name "map" np) [.Name "int" ip, .Call (.Attribute o "split" apos) [e] [] spos] [] cpos) c.env = pure none := by rfl) :
    W c (.Assign [.Tuple [.Name n1 p1, .Name n2 p2] tk tpos] (.Call (.Name "map" np) [.Name "int" ip, .Call (.Attribute o "split" apos) [e] [] spos] [] cpos) pos :: rest) Q E s := by
  refine wpAny_execs_cons (wpAny_Assign_stores (mapSplit I ho he hy hx (fun z T i l ts s' e1 m hts hi => ?_) hb hk hb' hk' hs hbase hline) hsw hw)
  show wpAny _ _ (PySem.assign (.Tuple _ tk tpos) c.env (.ref z)) _ _ _
  rw [arm_assign_Tuple]
  refine wpAny_bind (wpAny_standAt ?_)
  unfold PySem.unpack
  refine wpAny_bind (wpAny_holding ?_)
  show wpAny _ _ (unpackItems (.ref z) 2 none) _ _ _
  refine unpack_map (h₀ := s.heap) hh m (fun p hp => hok p.1 (hts ▸ List.mem_map_of_mem hp)) e1.keep hi (fun a b hab h' tk' t t' hk₁ => ?_) fun hn h' tk' e hk₁ hv => kE (hts ▸ hn) _ e ⟨hk₁, by rw [e1.rest]⟩ hv
  have e2 : Ext s { s' with heap := h', toks := tk' } := ⟨hk₁, by rw [e1.rest]⟩
  exact assignNames [(n1, p1), (n2, p2)] [.int a, .int b] _ σ _ ⟨⟨t, rfl⟩, ⟨t', rfl⟩, trivial⟩ rfl (fun q hq => by
    rcases List.mem_cons.mp hq with rfl | hq
    · exact h1
    · rcases List.mem_cons.mp hq with rfl | hq
      · exact h2
      · cases hq) (I.ext e2) (fun s'' I' => k a b (hts ▸ hab) s'' I')
end
end Mine

namespace Mine
abbrev dotS : Str := "."
/-- texts that get_line_col is asked of -/
structure Fit (x : Str) : Prop where
  len : x.length ≤ 640
  parts : ∀ p ∈ Txt.split x dotS, TxtOk p
def lc (x : Str) : Option (Int × Int) := lcOf (Txt.split x dotS)

theorem glc_gen {w : World} {A : Around} {s : Shared} {x : Str} {t : Tok} {R : Result → Shared → Prop} (hA : AOk 1 A) (amb : Amb (K1 w) s.heap) (hx : Fit x)
    (kOk : ∀ m n v s', lc x = some (m, n) → Ext s s' → (Pt.t [.int m, .int n]).Is s'.heap v → R (.ok (.ret v)) s')
    (kBad : lc x = none → ∀ (env : Env) s₁ s' e, env.scope.kind = .function → env.frame = some s.heap.objs.size → (∃ m, s₁.heap.Ns s.heap.objs.size m) → Ext s s₁ → Ext s₁ s' → NewVE s₁.heap s'.heap e →
      wpAny (model prog1 w) (A.deeper env) (leaving env (.ref e)) (fun _ s'' => R (.error (.ref e)) s'') (fun e' s'' => R (.error e') s'') s') :
    codeAny (model prog1 w) A (.call (.ref 21) ⟨[.str x t], []⟩) R s := by
  refine enter (f := 21) (σ₀ := [("index", cS x)]) (binds := [("index", .str x t)]) (by rfl) (by rfl) (by have := hA.depth; omega) amb (by rfl) (by simp) ⟨⟨rfl, t, rfl⟩, trivial⟩ (fun s₁ I => ?_)
  refine W.mapInt hA.handled I (.var rfl rfl rfl) .cStr (by decide +kernel) hx.len hx.parts (.inl rfl) (.inl rfl) (fun m n hmn s' I' => ?_) (fun hn s' e e1 he => ?_) (by rfl) (by rfl) (by rfl) (by rfl)
  · exact W.ret I' (.tup (xs := [.int m, .int n]) (by exact .cons (.var rfl rfl rfl) (.cons (.var rfl rfl rfl) .nil))) (fun v s'' e2 q => kOk m n v s'' hmn (I'.toExt.trans e2) q)
  · obtain ⟨mm, hm, _⟩ := I.frm.loc
    exact kBad hn _ s₁ s' e rfl rfl ⟨mm, hm⟩ I.toExt e1 he
end Mine

namespace Mine
/-- all but the object at L stands, that one up to its slots -/
structure ExtU (L : Addr) (s s' : Shared) : Prop where
  keep : KeepBut L s.heap s'.heap
  slots : ∀ o, s.heap.get? L = some o → ∃ sl, s'.heap.get? L = some { o with slots := sl }
  rest : s' = { s with heap := s'.heap, toks := s'.toks }
theorem Inv.extU {c : Cx} {σ : List (Str × Ct)} {γ : Gh} {s s' : Shared} (I : Inv c σ γ s) (x : ExtU c.env.locals s s') : Inv c σ γ s' := by
  obtain ⟨m, hn, hm⟩ := I.frm.loc
  obtain ⟨o, es, ep, ho, hd, r⟩ := id hn
  obtain ⟨sl, hsl⟩ := x.slots o ho
  have hno : ∀ vs n, o.data ≠ .seq vs n := fun vs n q => by rw [hd] at q; cases q
  have hct : ∀ {ct : Ct} {v : Value}, ct.Is s.heap v → ct.Is s'.heap v := fun y => y.other ho hno x.keep
  have hcell : ∀ {b : Addr} {v : Option Value}, s.heap.IsCell b v → s'.heap.IsCell b v := fun {b v} ⟨o', ho', hd'⟩ => by
    refine ⟨o', x.keep b o' ?_ ho', hd'⟩
    rintro rfl
    rw [ho] at ho'; cases ho'; rw [hd] at hd'; cases hd'
  refine ⟨I.amb, fun b o e => x.keep b o ?_ (I.keep b o e), by rw [x.rest, I.rest], ⟨I.frm.kind, I.frm.glob, I.frm.blt, I.frm.newL, ⟨m, ⟨_, es, ep, hsl, hd, r⟩, fun n ct e hk => ?_⟩, fun n b e => ?_, I.frm.inj, fun n ct e hk => ?_⟩, fun p hp => ?_, fun a vs z => ?_⟩
  · rintro rfl; rw [I.frm.newL] at e; cases e
  · obtain ⟨v, hv, y⟩ := hm n ct e hk; exact ⟨v, hv, hct y⟩
  · obtain ⟨v, y⟩ := I.frm.cel n b e; exact ⟨v, hcell y⟩
  · obtain ⟨b, v, e1, e2, e3⟩ := I.frm.cv n ct e hk; exact ⟨b, v, e1, hcell e2, hct e3⟩
  · obtain ⟨h1, h2⟩ := I.gh p hp
    refine ⟨x.keep _ _ ?_ h1, h2⟩
    intro q
    rw [q, ho] at h1; cases h1
    rcases h2 with ⟨vs, h2⟩ | ⟨vs, n, h2⟩ <;> (rw [hd] at h2; cases h2)
  · exact KeepT.but ho (.inr hno) x.keep a vs (I.kt a vs z)

def toldL (x : Str) : List Pt := match lc x with
  | some (m, n) => [.t [.int m, .int n]]
  | none => []

set_option maxHeartbeats 1000000 in
/-- the refusal leaves the called def, is noted, caught, and the suite gives an empty list -/
theorem refused {c : Cx} {σ : List (Str × Ct)} {γ : Gh} {A : Around} {envG envL : Env} {L : Addr} {hB : Heap} {s₁ s₂ s₃ s₄ : Shared} {e : Addr} {np lp rp pos : Pos} {Q : Flow → Shared → Prop} {E E' : Value → Shared → Prop} (I : Inv c σ γ s₁) (hcA : c.A = A.deeper c.env) (hcF : c.env.frame = some c.env.locals)
    (hfr : A.frames = some [envL]) (hkind : envL.scope.kind = .function) (hL : envL.frame = some L) (hns : ∃ m, c.B.heap.Ns L m) (ambB : Amb c.K hB) (hBk : KeepH hB c.B.heap) (hBL : hB.get? L = none)
    (e2 : Ext s₁ s₂) (hkG : envG.scope.kind = .function) (hfG : envG.frame = some s₂.heap.objs.size) (hnsG : ∃ m, s₃.heap.Ns s₂.heap.objs.size m) (e3 : Ext s₂ s₃) (e4 : Ext s₃ s₄) (hve : NewVE s₃.heap s₄.heap e)
    (hg : nsIn c.K mainGlobals "ValueError" = some none) (hk : c.env.kindOf "ValueError" = some .globalImplicit)
    (k : ∀ a s', ExtU L c.B s' → c.B.heap.get? a = none → Lst s'.heap a [] → Q (.ret (.ref a)) s') :
    wpAny c.M (c.A.deeper envG) (leaving envG (.ref e)) (fun _ s'' => wpAny c.M c.A (noteFrame (.ref e) c.env) (fun _ s2 => wpAny c.M c.A (setFlight (.ref e) none) (fun _ s3 =>
      wpAny c.M c.A (handleBy (.ref e) c.env [.ExceptHandler (some (.Name "ValueError" np)) none [.Return (some (.List [] lp)) rp] pos]) Q E s3) E s2) E s'') E' s₄ := by
  obtain ⟨mL, hmL⟩ := hns
  obtain ⟨oL, esL, epL, hoL, hdL, rL⟩ := id hmL
  have e14 : Ext s₁ s₄ := (e2.trans e3).trans e4
  have e04 : Ext c.B s₄ := I.toExt.trans e14
  have hst : Heap.StaysIn (hideAll c.B.heap [L]) s₄.heap := fun b o q => e04.keep b o (of_hideAll _ q)
  obtain ⟨mT, hmT, _⟩ := I.frm.loc
  obtain ⟨mG, hmG⟩ := hnsG
  have hbn : ∀ b, c.B.heap.get? b = none → (hideAll c.B.heap [L]).get? b = none := fun b q => by
    cases h : (hideAll c.B.heap [L]).get? b with
    | none => rfl
    | some o => rw [of_hideAll _ h] at q; cases q
  have hff : s₄.heap.FunFrames (hideAll c.B.heap [L]) [envG, c.env, envL] := by
    refine Heap.FunFrames.cons (by rw [hkG]; decide) hfG (hmG.keeps e4.keep) (hbn _ (none_from (I.toExt.trans e2).keep (Heap.get?_none_of_le (Nat.le_refl _)))) ?_
    refine Heap.FunFrames.cons (by rw [I.frm.kind]; decide) hcF (hmT.keeps e14.keep) (hbn _ I.frm.newL) ?_
    exact Heap.FunFrames.cons (by rw [hkind]; decide) hL (hmL.keeps e04.keep) (hideAll_none _ (.head _)) trivial
  obtain ⟨hen, oe, t0, hoe, hcls, hde⟩ := hve
  have hen0 : (hideAll c.B.heap [L]).get? e = none := hbn _ (none_from ((I.toExt.trans e2).trans e3).keep hen)
  have hfr2 : c.A.frames = some [c.env, envL] := by rw [hcA]; exact Around.frames_deeper hfr
  refine wpAny_leaving_firstW (a0 := t0) (Around.frames_deeper hfr2) hff hfG hoe hst hen0 hde rfl rfl fun h₅ hL5 => ?_
  obtain ⟨k1, ⟨_, _, k2⟩, k3, k4⟩ := hL5
  have u5 : s₄.heap.UpToSlots h₅ := k4
  rw [hcls] at k3
  refine wpAny_looks_onW hfr2 hcF ⟨k1, hen0, k2, k3⟩ fun h₆ hH6 u6 => ?_
  refine wpAny_landsW hH6 fun h₇ hF7 u7 => ?_
  have u7' : s₄.heap.UpToSlots h₇ := (u5.trans u6).trans u7
  have hnsT : h₇.Ns c.env.locals mT := u7'.ns (hmT.keeps e14.keep)
  have hBb : KeepH hB (hideAll c.B.heap [L]) := fun b o q => hideAll_get _ (hBk b o q) fun hm => by
    rw [List.mem_singleton] at hm; subst hm; rw [hBL] at q; cases q
  have ambb : Amb c.K (hideAll c.B.heap [L]) := ambB.keep hBb
  obtain ⟨p0, l0, mg, mb, T⟩ := (ambb.keep hF7.1).top
  have inK7 := (ambb.keep hF7.1).inK
  obtain ⟨ob, hob, hobc⟩ := hF7.there
  refine wpAny_handleBy_builtin (T := "ValueError") (X := "ValueError") (b := true) (isSubtype_of_subB (by decide +kernel)) (isSubtype_of_subB (by decide +kernel)) (isSubtype_of_subB (by decide +kernel)) ?_
  refine Name_function_global I.frm.kind hk (loadGlobal_builtin (v := .type "ValueError") (by rw [I.frm.glob]; exact T.g) (mg_none_of inK7 T.g hg) (by rw [I.frm.blt]; exact T.b) ((T.builtins _ (by decide)).trans (by decide +kernel)) ⟨rfl, ⟨ob, hob, hobc⟩, ?_⟩)
  rw [if_pos rfl]
  refine wpAny_setFlight_noneW (fl := .none) hF7.1 hF7.2.2.1 hF7.2.2.2 fun h₈ s8 f8 t8 k8 => ?_
  refine wpAny_execs_cons (wpAny_Return_some (wpAny_List_spliced (spliced_nil ⟨by unfold sizeLine; simp, ?_⟩)))
  have hL7 : ∀ o, c.B.heap.get? L = some o → ∃ sl, h₈.get? L = some { o with slots := sl } := fun o q => by
    rw [hoL] at q; cases q
    have hnf : ∀ vs, oL.data ≠ .fields vs := fun vs q => by rw [hdL] at q; cases q
    obtain ⟨sl, q7⟩ := u7' L oL (e04.keep _ _ hoL) hnf
    exact ⟨sl, k8 L _ q7 hnf⟩
  have hother : KeepBut L c.B.heap h₈ := fun b o hb q => s8 b o (hideAll_get _ q fun hm => by rw [List.mem_singleton] at hm; exact hb hm)
  refine k _ _ ⟨fun b o hb q => Heap.get?_push_of_some _ (hother b o hb q), fun o q => ?_, by rw [e04.rest]⟩ ?_ ⟨[], ⟨0, Heap.get?_push_size _ rfl⟩, trivial⟩
  · obtain ⟨sl, q8⟩ := hL7 o q; exact ⟨sl, Heap.get?_push_of_some _ q8⟩
  · cases hg' : c.B.heap.get? h₈.objs.size with
    | none => rfl
    | some o =>
      exfalso
      by_cases hLe : h₈.objs.size = L
      · rw [hLe] at hg'
        obtain ⟨sl, q8⟩ := hL7 o hg'
        exact Nat.lt_irrefl _ (hLe ▸ Heap.lt_size q8 : h₈.objs.size < h₈.objs.size)
      · exact Nat.lt_irrefl _ (Heap.lt_size (hother _ o hLe hg'))

set_option maxHeartbeats 1000000 in
theorem told_ok {w : World} {A : Around} {s : Shared} {x : Str} {t : Tok} {envL : Env} {L : Addr} {hB : Heap} (hA : AOk 2 A) (hfr : A.frames = some [envL]) (hkind : envL.scope.kind = .function) (hL : envL.frame = some L) (hns : ∃ m, s.heap.Ns L m)
    (ambB : Amb (K1 w) hB) (hBk : KeepH hB s.heap) (hBL : hB.get? L = none) (hx : Fit x) :
    codeAny (model prog1 w) A (.call (.ref 81) ⟨[.str x t], []⟩) (fun r s' => ∃ a, r = .ok (.ret (.ref a)) ∧ ExtU L s s' ∧ s.heap.get? a = none ∧ Lst s'.heap a (toldL x)) s := by
  obtain ⟨mL, hmL⟩ := hns
  obtain ⟨oL, esL, epL, hoL, hdL, rL⟩ := id hmL
  have amb : Amb (K1 w) s.heap := ambB.keep hBk
  refine enter (f := 81) (σ₀ := [("text", cS x)]) (binds := [("text", .str x t)]) (by rfl) (by rfl) (by have := hA.depth; omega) amb (by rfl) (by simp) ⟨⟨rfl, t, rfl⟩, trivial⟩ (fun s₁ I => ?_)
  refine wpAny_execs_cons (wpAny_Try_except (wpAny_execs_cons (wpAny_Return_some (wpAny_List_spliced ?_))))
  rw [starEach_cons rfl, backTo_cons]
  refine spliced_cons (call_raw I (f := 21) (nm := "get_line_col") (xs := [vS x]) (by rfl) (by rfl) (by rfl) (.cons (.var rfl rfl rfl) .nil) (fun vs s₂ e2 q => ?_))
  match vs, q with
  | [v], ⟨⟨t', hv⟩, _⟩ =>
  subst hv
  refine wpAny_call (glc_gen (AOk.deeper hA) (I.ext e2).ambH hx (fun m n v s' hmn e3 q3 => ?_) (fun hnone envG s₃ s₄ e hkG hfG hnsG e3 e4 hve => ?_))
  · -- told
    refine spliced_nil ⟨by unfold sizeLine; simp, ?_⟩
    have e4 : Ext s s' := (I.toExt.trans e2).trans e3
    refine ⟨_, rfl, ⟨fun b o _ q => Heap.get?_push_of_some _ (e4.keep b o q), fun o q => ⟨o.slots, Heap.get?_push_of_some _ (e4.keep _ o q)⟩, by rw [e4.rest]⟩, none_from e4.keep (Heap.get?_none_of_le (Nat.le_refl _)), ?_⟩
    have ht : toldL x = [.t [.int m, .int n]] := by unfold toldL; rw [hmn]
    rw [ht]
    exact ⟨[v], ⟨0, Heap.get?_push_size _ rfl⟩, Pt.Is.keep (p := .t [.int m, .int n]) q3 (fun b o q => Heap.get?_push_of_some _ q), trivial⟩
  · -- refused
    refine refused I rfl rfl hfr hkind hL ⟨mL, hmL⟩ ambB hBk hBL e2 hkG hfG hnsG e3 e4 hve (by rfl) (by rfl) (fun a s' u hn hl => ⟨a, rfl, u, hn, ?_⟩)
    have ht : toldL x = [] := by unfold toldL; rw [hnone]
    rw [ht]; exact hl
end Mine

namespace Mine
/-! ## the text's tokens -/
def isDg (d : Nat) : Bool := decide (48 ≤ d) && decide (d ≤ 57)
theorem isDg_iff {d : Nat} : isDg d = true ↔ Dig d := by simp [isDg, Dig]
def sgs : List Nat := [48, 49, 50, 51, 52, 53, 54, 55, 56, 57, 46, 43, 45, 32, 61]
def knd (d : Nat) : Int := if d = 43 then 14 else if d = 45 then 15 else if d = 46 then 23 else 22
structure Tk where
  k : Int
  a : Nat
  e : Nat
def tkP (t : Tk) : Pt := .t [.int t.k, .int t.a, .int t.e]
def toksS (at_ : Nat) (l : List Nat) : List Tk := match l with
  | [] => []
  | d :: r =>
    if isDg d then ⟨2, at_, at_ + 1 + (r.takeWhile isDg).length⟩ :: toksS (at_ + 1 + (r.takeWhile isDg).length) (r.drop (r.takeWhile isDg).length)
    else if d = 32 then toksS (at_ + 1) r
    else ⟨knd d, at_, at_ + 1⟩ :: toksS (at_ + 1) r
termination_by l.length
decreasing_by all_goals simp <;> omega
def runE (l : List Nat) (e : Nat) : Nat := e + ((l.drop e).takeWhile isDg).length
def tstep (l : List Nat) (i : Nat × List Tk) : Nat × List Tk := match l.drop i.1 with
  | [] => i
  | d :: _ => if isDg d then (runE l (i.1 + 1), i.2 ++ [⟨2, i.1, runE l (i.1 + 1)⟩]) else if d = 32 then (i.1 + 1, i.2) else (i.1 + 1, i.2 ++ [⟨knd d, i.1, i.1 + 1⟩])
theorem runE_le {l : List Nat} {e : Nat} (h : e ≤ l.length) : e ≤ runE l e ∧ runE l e ≤ l.length := by
  unfold runE
  have := (List.takeWhile_sublist isDg (l := l.drop e)).length_le
  rw [List.length_drop] at this
  omega
theorem runE_step {l : List Nat} {e d : Nat} (h : l[e]? = some d) (hd : isDg d = true) : runE l (e + 1) = runE l e := by
  have : l.drop e = d :: l.drop (e + 1) := by
    obtain ⟨h1, h2⟩ := List.getElem?_eq_some_iff.mp h
    rw [List.drop_eq_getElem_cons h1, h2]
  unfold runE
  rw [this, List.takeWhile_cons, if_pos hd]
  simp; omega
theorem runE_stop {l : List Nat} {e : Nat} (h : ∀ d, l[e]? = some d → isDg d = false) : runE l e = e := by
  unfold runE
  by_cases h1 : e < l.length
  · rw [List.drop_eq_getElem_cons h1, List.takeWhile_cons, if_neg]
    · simp
    · rw [h _ (List.getElem?_eq_some_iff.mpr ⟨h1, rfl⟩)]; simp
  · rw [List.drop_eq_nil_of_le (by omega)]; simp
theorem tstep_F {l : List Nat} {i : Nat × List Tk} (h : i.1 < l.length) : (tstep l i).2 ++ toksS (tstep l i).1 (l.drop (tstep l i).1) = i.2 ++ toksS i.1 (l.drop i.1) := by
  obtain ⟨at_, acc⟩ := i
  have e : l.drop at_ = l[at_] :: l.drop (at_ + 1) := List.drop_eq_getElem_cons h
  unfold tstep
  simp only [e]
  rw [toksS.eq_def at_]
  simp only
  cases hd : isDg l[at_] with
  | true =>
    simp only [if_true]
    have : at_ + 1 + (List.takeWhile isDg (List.drop (at_ + 1) l)).length = runE l (at_ + 1) := rfl
    rw [this, List.drop_drop]
    have e2 : at_ + 1 + (List.takeWhile isDg (List.drop (at_ + 1) l)).length = runE l (at_ + 1) := rfl
    rw [e2]; simp
  | false =>
    simp only [Bool.false_eq_true, if_false]
    by_cases h32 : l[at_] = 32
    · simp [h32]
    · simp [h32]
theorem tstep_ok {l : List Nat} {i : Nat × List Tk} (h : i.1 < l.length) (h2 : i.2.length ≤ i.1 + 1) : ((tstep l i).1 ≤ l.length ∧ (tstep l i).2.length ≤ (tstep l i).1 + 1) ∧ l.length - (tstep l i).1 < l.length - i.1 := by
  obtain ⟨at_, acc⟩ := i
  have e : l.drop at_ = l[at_] :: l.drop (at_ + 1) := List.drop_eq_getElem_cons h
  have hr := runE_le (l := l) (e := at_ + 1) h
  simp only at h h2
  unfold tstep
  simp only [e]
  split
  · simp; omega
  · split <;> (simp; omega)
theorem in_dig : ∀ d ∈ sgs, (!(Builtin.Str.occurrences (Str.ofString "0123456789") ⟨#[d]⟩ 0 (Str.ofString "0123456789").length 1).isEmpty) = isDg d := by decide +kernel
theorem ne_sp : ∀ d ∈ sgs, ((⟨#[d]⟩ : Str) != Str.ofString " ") = !(decide (d = 32)) := by decide +kernel

theorem dict22 (w : World) : ∃ es n, (K1 w).lookup 22 = some ⟨.type "dict", none, .dict es n, #[]⟩ ∧ KeysLit w.params es.toList := ⟨_, _, rfl, by
  repeat (first | exact trivial | refine ⟨⟨_, _, rfl, rfl⟩, ?_⟩)⟩
theorem ett (w : World) : ∀ d ∈ sgs, isDg d = false → d ≠ 32 → ∃ t, nsIn (K1 w) 22 ⟨#[d]⟩ = some (some (.int (knd d) t)) := by
  intro d hd h1 h2
  have : d = 46 ∨ d = 43 ∨ d = 45 ∨ d = 61 := by
    revert h1 h2
    revert d
    decide
  rcases this with rfl | rfl | rfl | rfl <;> exact ⟨_, rfl⟩

def tokens (l : List Nat) : List Tk := [⟨0, 0, 0⟩] ++ toksS 0 l ++ [⟨0, l.length, l.length⟩]
theorem cps_get {x : Str} {i : Nat} : x.cps[i]? = x.cps.toList[i]? := by simp

set_option maxHeartbeats 1000000 in
theorem tokens_ok (w : World) (x : Str) (hx : ∀ d ∈ x.cps.toList, d ∈ sgs) (hlen : x.cps.toList.length ≤ 100) : Fun prog1 w (K1 w) 1 52 [vS x] (.l ((tokens x.cps.toList).map tkP)) := by
  intro A s vs hA amb hargs
  match vs, hargs with
  | [v], ⟨⟨t, hv⟩, _⟩ =>
  subst hv
  have hxl : x.length = x.cps.toList.length := by simp [Str.length]
  refine enter (f := 52) (σ₀ := [("text", cS x)]) (binds := [("text", .str x t)]) (by rfl) (by rfl) (by have := hA.depth; omega) amb (by rfl) (by simp) ⟨⟨rfl, t, rfl⟩, trivial⟩ (fun s₁ I => ?_)
  refine W.assignF I (.list (ps := [tkP ⟨0, 0, 0⟩]) (by exact .cons (.tup (xs := [.int 0, .int 0, .int 0]) (by exact .cons .cInt (.cons .cInt (.cons .cInt .nil)))) .nil)) (.inl rfl) (fun a s₂ ha I2 => ?_)
  refine W.assign I2 Exp.cInt (.inl rfl) (fun s₃ I3 => ?_)
  have haB := none_from I.keep ha
  refine W.whileR (ι := Nat × List Tk) (fun i => [("at", cI i.1), ("tokens", .l a (i.2.map tkP)), ("text", cS x)]) (tstep x.cps.toList) (fun i => decide ((i.1 : Int) < x.length)) (fun i => i.1 ≤ x.cps.toList.length ∧ i.2.length ≤ i.1 + 1) (fun i => x.cps.toList.length - i.1) (fun i => i.2 ++ toksS i.1 (x.cps.toList.drop i.1)) (0, [⟨0, 0, 0⟩]) I3 ⟨by simp, by simp⟩ (fun i hi hb => ?_) (fun i hi => ?_) (fun i s' hi hb I' => ?_) (fun i s' hi hb hF I' => ?_)
  · have hb' : i.1 < x.cps.toList.length := by have := of_decide_eq_true hb; omega
    obtain ⟨h1, h2⟩ := tstep_ok hb' hi.2
    exact ⟨h1, h2, tstep_F hb'⟩
  · exact .cmp (.var rfl rfl rfl) (.lenS (.var rfl rfl rfl) (by omega)) .lt
  · have hb' : i.1 < x.cps.toList.length := by have := of_decide_eq_true hb; omega
    obtain ⟨at_, acc⟩ := i
    simp only at hb' hi
    have hd : x.cps.toList[at_]? = some x.cps.toList[at_] := List.getElem?_eq_some_iff.mpr ⟨hb', rfl⟩
    have hdm := hx _ (List.getElem_mem hb')
    have hdrop : x.cps.toList.drop at_ = x.cps.toList[at_] :: x.cps.toList.drop (at_ + 1) := List.drop_eq_getElem_cons hb'
    generalize hdd : x.cps.toList[at_] = d at hd hdm hdrop
    refine W.assign I' (.add (.var rfl rfl rfl) .cInt) (.inl rfl) (fun s₅ I5 => ?_)
    refine W.ite I5 (.cmp (.itemS (.var rfl rfl rfl) (.var rfl rfl rfl) (by rw [cps_get]; exact hd) (Int.natCast_nonneg _) (by omega)) .cStr .inS) (fun s₆ I6 => ?_)
    rw [in_dig d hdm]
    have hatlt : (at_ : Int) < 2 ^ 40 := by omega
    cases hdg : isDg d with
    | true =>
      rw [if_pos rfl]
      have hnx : tstep x.cps.toList (at_, acc) = (runE x.cps.toList (at_ + 1), acc ++ [⟨2, at_, runE x.cps.toList (at_ + 1)⟩]) := by
        unfold tstep; simp only [hdrop, hdg, if_true]
      refine W.whileR (ι := Nat) (fun e => [("end", cI e), ("at", cI at_), ("tokens", .l a (acc.map tkP)), ("text", cS x)]) (fun e => e + 1) (fun e => decide ((e : Int) < x.length) && isDg (x.cps.toList.getD e 0)) (fun e => at_ + 1 ≤ e ∧ e ≤ x.cps.toList.length) (fun e => x.cps.toList.length - e) (fun e => runE x.cps.toList e) (at_ + 1) I6 ⟨by omega, by omega⟩ (fun e he hb => ?_) (fun e he => ?_) (fun e s' he hb I' => ?_) (fun e s' he hb hF I' => ?_)
      · simp only [Bool.and_eq_true, decide_eq_true_eq] at hb
        have he2 : e < x.cps.toList.length := by omega
        refine ⟨⟨by omega, by omega⟩, by omega, runE_step (d := x.cps.toList.getD e 0) ?_ hb.2⟩
        rw [List.getD_eq_getElem?_getD, List.getElem?_eq_getElem he2]; rfl
      · refine .and2 (.cmp (.var rfl rfl rfl) (.lenS (.var rfl rfl rfl) (by omega)) .lt) fun hb => ?_
        have hb' := of_decide_eq_true hb
        have he2 : e < x.cps.toList.length := by omega
        have hdm' := hx _ (List.getElem_mem he2)
        have hge : x.cps.toList.getD e 0 = x.cps.toList[e] := by rw [List.getD_eq_getElem?_getD, List.getElem?_eq_getElem he2]; rfl
        rw [hge, ← in_dig _ hdm']
        exact .cmp (.itemS (.var rfl rfl rfl) (.var rfl rfl rfl) (by rw [cps_get]; exact List.getElem?_eq_getElem he2) (Int.natCast_nonneg _) (by omega)) .cStr .inS
      · refine W.assign I' (.add (.var rfl rfl rfl) .cInt) (.inl rfl) (fun s₈ I8 => W.nil (I8.sub ?_))
        simp only [List.forall_mem_cons]
        exact ⟨rfl, rfl, rfl, rfl, by simp⟩
      · have hee : e = runE x.cps.toList (at_ + 1) := by
          rw [← hF]
          refine (runE_stop fun d' hd' => ?_).symm
          rw [Bool.and_eq_false_iff] at hb
          rcases hb with hb | hb
          · have h1 := (List.getElem?_eq_some_iff.mp hd').1
            have := of_decide_eq_false hb
            omega
          · rw [List.getD_eq_getElem?_getD, hd'] at hb; exact hb
        refine W.append (p := tkP ⟨2, at_, e⟩) I' rfl rfl (.tup (xs := [.int 2, .int at_, .int e]) (by exact .cons .cInt (.cons (.var rfl rfl rfl) (.cons (.var rfl rfl rfl) .nil)))) haB (by intro q hq; cases hq) (by simp; omega) (fun s₈ I8 => ?_)
        refine W.nil ?_
        refine W.assign I8 (.var rfl rfl rfl) (.inl rfl) (fun s₉ I9 => W.nil (I9.sub ?_))
        rw [hnx, ← hee]
        simp only [List.forall_mem_cons]
        refine ⟨rfl, ?_, rfl, by simp⟩
        show some (setL a _ (.l a _)) = _
        simp [setL]
    | false =>
      rw [if_neg (by simp)]
      refine W.ite I6 (.cmp (.itemS (.var rfl rfl rfl) (.var rfl rfl rfl) (by rw [cps_get]; exact hd) (Int.natCast_nonneg _) (by omega)) .cStr .neS) (fun s₇ I7 => ?_)
      rw [ne_sp d hdm]
      by_cases h32 : d = 32
      · have hnx : tstep x.cps.toList (at_, acc) = (at_ + 1, acc) := by
          unfold tstep; simp only [hdrop, hdg, h32, if_true]; simp [isDg]
        rw [decide_eq_true h32, Bool.not_true, if_neg (by simp)]
        refine W.nil (W.nil ?_)
        refine W.assign I7 (.var rfl rfl rfl) (.inl rfl) (fun s₉ I9 => W.nil (I9.sub ?_))
        rw [hnx]
        simp only [List.forall_mem_cons]
        exact ⟨rfl, rfl, rfl, by simp⟩
      · have hnx : tstep x.cps.toList (at_, acc) = (at_ + 1, acc ++ [⟨knd d, at_, at_ + 1⟩]) := by
          unfold tstep; simp only [hdrop, hdg, h32, if_false]; simp
        rw [decide_eq_false h32, Bool.not_false, if_pos rfl]
        obtain ⟨es, n22, hl22, hk22⟩ := dict22 w
        obtain ⟨t22, hns⟩ := ett w d hdm hdg h32
        refine W.append (p := tkP ⟨knd d, at_, at_ + 1⟩) I7 rfl rfl (.tup (xs := [.int (knd d), .int at_, .int ((at_ + 1 : Nat) : Int)]) (by exact .cons (.topDict (by rfl) (by rfl) hl22 hk22 (.itemS (.var rfl rfl rfl) (.var rfl rfl rfl) (by rw [cps_get]; exact hd) (Int.natCast_nonneg _) (by omega)) hns) (.cons (.var rfl rfl rfl) (.cons (.var rfl rfl rfl) .nil)))) haB (by intro q hq; cases hq) (by simp; omega) (fun s₈ I8 => ?_)
        refine W.nil (W.nil ?_)
        refine W.assign I8 (.var rfl rfl rfl) (.inl rfl) (fun s₉ I9 => W.nil (I9.sub ?_))
        rw [hnx]
        simp only [List.forall_mem_cons]
        refine ⟨rfl, ?_, rfl, by simp⟩
        show some (setL a _ (.l a _)) = _
        simp [setL]
  · have hb' : x.cps.toList.length ≤ i.1 := by have := of_decide_eq_false hb; omega
    have hacc : i.2 = [⟨0, 0, 0⟩] ++ toksS 0 x.cps.toList := by
      have := hF
      simp only [List.drop_eq_nil_of_le hb', List.drop_zero] at this
      rw [toksS.eq_def i.1] at this
      simpa using this
    refine W.retF I' (ps := (tokens x.cps.toList).map tkP) ?_ (fun b s' e1 hb q => ⟨_, rfl, I'.toExt.trans e1, _, rfl, none_from I'.keep hb, q⟩)
    have : (tokens x.cps.toList).map tkP = i.2.map tkP ++ [tkP ⟨0, x.cps.toList.length, x.cps.toList.length⟩] := by
      unfold tokens; rw [hacc]; simp
    rw [this]
    rw [← hxl]
    refine .addL (.var rfl rfl rfl) (.list (ps := [tkP ⟨0, x.length, x.length⟩]) (by
      exact .cons (.tup (xs := [.int 0, .int (x.length : Nat), .int (x.length : Nat)]) (by
        exact .cons .cInt (.cons (.lenS (.var rfl rfl rfl) (by omega)) (.cons (.lenS (.var rfl rfl rfl) (by omega)) .nil)))) .nil)) (by simp; unfold sizeLine; omega)
end Mine

namespace Mine
def cutL (l : List Nat) (i j : Nat) : List Nat := (l.take j).drop i
def lsOf (l : List Nat) (t : Tk) : List Int := (List.range' t.a (t.e - t.a)).map fun i => worthL (cutL l i t.e)
def marked (t2 t1 : Tk) : Bool := (t2.k == 14 || t2.k == 15) && t2.e == t1.a
theorem marked_eq (t2 t1 : Tk) : marked t2 t1 = (([14, 15] : List Int).any (· == t2.k) && ((t2.e : Int) == (t1.a : Int))) := by
  have h1 : ((14 : Int) == t2.k) = (t2.k == 14) := by rw [Bool.eq_iff_iff, beq_iff_eq, beq_iff_eq]; exact eq_comm
  have h2 : ((15 : Int) == t2.k) = (t2.k == 15) := by rw [Bool.eq_iff_iff, beq_iff_eq, beq_iff_eq]; exact eq_comm
  have h3 : ((t2.e : Int) == (t1.a : Int)) = (t2.e == t1.a) := by rw [Bool.eq_iff_iff, beq_iff_eq, beq_iff_eq]; exact Int.ofNat_inj
  show ((t2.k == 14 || t2.k == 15) && t2.e == t1.a) = (((14 : Int) == t2.k || ((15 : Int) == t2.k || false)) && ((t2.e : Int) == (t1.a : Int)))
  rw [h1, h2, h3, Bool.or_false]
def linesR (l : List Nat) : List Tk → List Int
  | t1 :: rest => if t1.k = 2 then
      match rest with
      | t2 :: rest2 => if marked t2 t1 then
          match rest2 with
          | t3 :: _ => List.replicate (1 + t2.a - t3.e) (if t2.k = 14 then (lsOf l t1).headD 0 else -(lsOf l t1).headD 0) ++ lsOf l t1
          | [] => []
        else List.replicate (t1.a - t2.e) ((lsOf l t1).headD 0) ++ lsOf l t1
      | [] => []
    else []
  | [] => []
structure NumTk (l : List Nat) (t : Tk) : Prop where
  lt : t.a < t.e
  le : t.e ≤ l.length
  dig : ∀ d ∈ cutL l t.a t.e, Dig d
def OkR (l : List Nat) : List Tk → Prop
  | t1 :: rest => t1.k = 2 → NumTk l t1 ∧ match rest with
      | t2 :: rest2 => marked t2 t1 = true → rest2 ≠ []
      | [] => False
  | [] => False
theorem slice_cps {x : Str} {i j : Nat} (hij : i ≤ j) (hj : j ≤ x.length) : (Txt.slice x (some (i : Int)) (some (j : Int))).cps.toList = cutL x.cps.toList i j := by
  have hl : x.length = x.cps.toList.length := by simp [Str.length]
  unfold Txt.slice cutL
  rw [PySem.StrLaws.sliced_plain x hij hj, PySem.StrLaws.strSliceIndices_plain hij hj]
  have e : List.drop i (List.take j x.cps.toList) = List.take (j - i) (List.drop i x.cps.toList) := by rw [List.drop_take]
  split
  · rename_i h
    simp only [BEq.rfl, List.length_map, List.length_range, Bool.true_and, beq_iff_eq] at h
    have h0 : i = 0 := by omega
    have h1 : j = x.cps.toList.length := by omega
    rw [e, h0, h1]; simp [List.take_of_length_le]
  · rw [e]
theorem cels_of {cl cells : List (Str × Addr)} (h : ∀ p ∈ cl, cells.lookup p.1 = some p.2) : ∀ y b, cl.lookup y = some b → cells.lookup y = some b := fun y b e => h (y, b) (mem_of_lookup e)
theorem flat_rng {a e : Nat} {g : Nat → Int} {f : Pt → List Pt} (hae : a ≤ e) (hf : ∀ i : Nat, a ≤ i → i < e → f (pI i) = [pI (g i)]) : (rng a e).flatMap f = ((List.range' a (e - a)).map g).map pI := by
  have h1 : ((e : Int) - (a : Int)).toNat = e - a := by omega
  unfold rng
  rw [h1, List.flatMap_map, List.range'_eq_map_range, List.map_map, List.map_map]
  have : ∀ n, a + n ≤ e → (List.range n).flatMap (fun i => f (pI ((a : Int) + (i : Nat)))) = (List.range n).map ((pI ∘ g) ∘ fun x => a + x) := by
    intro n
    induction n with
    | zero => intro _; rfl
    | succ n ih =>
      intro hn
      rw [List.range_succ, List.flatMap_append, List.map_append, ih (by omega)]
      congr 1
      simp only [List.flatMap_cons, List.flatMap_nil, List.append_nil, List.map_cons, List.map_nil, Function.comp]
      have := hf (a + n) (by omega) (by omega)
      rw [Int.natCast_add] at this
      exact this
  exact this (e - a) (by omega)
theorem rng_mem {a b : Int} {p : Pt} (h : p ∈ rng a b) : ∃ i : Nat, p = pI (a + (i : Nat)) ∧ i < (b - a).toNat := by
  obtain ⟨i, hi⟩ := List.mem_iff_getElem?.mp h
  obtain ⟨h1, h2⟩ := rng_get hi
  exact ⟨i, h1, h2⟩
theorem cut_dig {l : List Nat} {a i e : Nat} (hai : a ≤ i) (h : ∀ d ∈ cutL l a e, Dig d) : ∀ d ∈ cutL l i e, Dig d := by
  intro d hd
  refine h d ?_
  unfold cutL at hd ⊢
  have : i = a + (i - a) := by omega
  rw [this, ← List.drop_drop] at hd
  exact List.mem_of_mem_drop hd

set_option maxHeartbeats 1000000 in
theorem lines_ok (w : World) (x : Str) (ah : List Tk) (hlen : x.cps.toList.length ≤ 100) (hah : ah.length ≤ 100) (hbd : ∀ t ∈ ah, t.a ≤ 100 ∧ t.e ≤ 100) (hok : OkR x.cps.toList ah.reverse) :
    Fun prog1 w (K1 w) 2 64 [vS x, .l (ah.map tkP)] (.l ((linesR x.cps.toList ah.reverse).map pI)) := by
  intro A s vs hA amb hargs
  match vs, hargs with
  | [v, va], ⟨⟨t, hv⟩, ⟨b, hva, hL⟩, _⟩ =>
  subst hv hva
  have hxl : x.length = x.cps.toList.length := by simp [Str.length]
  refine enterC (f := 64) (σ₀ := [("text", cS x), ("ahead", .l b (ah.map tkP))]) (binds := [("text", .str x t), ("ahead", .ref b)]) (by rfl) (by rfl) (by have := hA.depth; omega) amb (by rfl) ?_ ?_ (fun s₁ I => ?_)
  · simp only [List.forall_mem_cons]
    exact ⟨.inr ⟨rfl, rfl⟩, .inl rfl, by simp⟩
  · simp only [List.forall_mem_cons]
    exact ⟨⟨_, ⟨t, rfl⟩, .inr ⟨rfl, rfl, rfl⟩⟩, ⟨_, ⟨rfl, hL⟩, .inl ⟨rfl, rfl⟩⟩, by simp⟩
  obtain ⟨t1, rest, hr⟩ : ∃ t1 rest, ah.reverse = t1 :: rest := by
    cases h : ah.reverse with
    | nil => rw [h] at hok; exact hok.elim
    | cons a r => exact ⟨a, r, rfl⟩
  rw [hr] at hok
  have h1 : ah.length = rest.length + 1 := by rw [← List.length_reverse, hr]; rfl
  have get : ∀ (i : Nat) (t : Tk), (t1 :: rest)[i]? = some t → (ah.map tkP)[ix (-((i : Int) + 1)) (ah.map tkP).length]? = some (tkP t) := by
    intro i t h
    have hi := (List.getElem?_eq_some_iff.mp h).1
    simp only [List.length_cons] at hi
    rw [← hr, List.getElem?_reverse (by omega)] at h
    have : ix (-((i : Int) + 1)) (ah.map tkP).length = ah.length - 1 - i := by
      unfold ix; rw [if_pos (by omega), List.length_map]; omega
    rw [this, List.getElem?_map, h]; rfl
  refine W.unpack (as := [.int t1.k, .int t1.a, .int t1.e]) [(_, _), (_, _), (_, _)] hA.handled I (.item (.var rfl rfl rfl) (.neg .cInt) (get 0 t1 rfl) (by simp; omega) (by decide)) rfl rfl ?_ (fun s₂ I2 => ?_)
  · simp only [List.forall_mem_cons]
    exact ⟨.inl rfl, .inl rfl, .inr ⟨rfl, _, rfl, Heap.get?_none_of_le (by show s.heap.objs.size ≤ s.heap.objs.size + 1 + 1; omega)⟩, by simp⟩
  have hI2 : Inv _ [("end", cI t1.e), ("at", cI t1.a), ("kind", cI t1.k), ("text", cS x), ("ahead", .l b (ah.map tkP))] g0 s₂ := I2
  clear I2
  have hmem : t1 ∈ ah := by rw [← List.mem_reverse, hr]; exact .head _
  have hb1 := hbd t1 hmem
  refine W.ite hI2 (.cmp (.var rfl rfl rfl) .cInt .ne) (fun s₃ I3 => ?_)
  by_cases hk2 : t1.k = 2
  · obtain ⟨hnum, hok2⟩ := hok hk2
    rw [show ((t1.k : Int) != 2) = false by rw [hk2]; rfl, if_neg (by simp)]
    refine W.nil ?_
    refine W.assignComp [("text", s.heap.objs.size + 1), ("end", s.heap.objs.size + 1 + 1)] [("end", cI t1.e), ("text", cS x)] (fun p => match p with | .a (.int i) => [pI (worthL (cutL x.cps.toList i.toNat t1.e))] | _ => []) I3
      (.range2 hA.handled (.var rfl rfl rfl) (.var rfl rfl rfl) (by rfl) (by rfl) (by omega) (by omega)) ⟨by rfl, by decide, by rfl, by decide, by rfl, ?_, ?_⟩ ?_ (by rfl) (by rfl) (fun C B p γ' hp => ?_) (fun aL s₄ haL I4 => ?_)
    · exact cels_of (by simp only [List.forall_mem_cons]; exact ⟨rfl, rfl, by simp⟩)
    · simp only [List.forall_mem_cons]
      exact ⟨⟨rfl, rfl, rfl, by decide, fun C => (by show some NameKind.cell ≠ some NameKind.local; decide)⟩, ⟨rfl, rfl, rfl, by decide, fun C => (by show some NameKind.cell ≠ some NameKind.local; decide)⟩, by simp⟩
    · rw [rng_length]; unfold sizeLine; omega
    · obtain ⟨i, rfl, hi⟩ := rng_mem hp
      have hnn : ((t1.a : Int) + (i : Nat)).toNat = t1.a + i := by omega
      have hle := hnum.le
      have hsl := slice_cps (x := x) (i := t1.a + i) (j := t1.e) (by omega) (by omega)
      rw [Int.natCast_add] at hsl
      show Turn _ _ _ _ _ [pI (worthL (cutL x.cps.toList ((t1.a : Int) + (i : Nat)).toNat t1.e))]
      rw [hnn, ← hsl]
      exact .one (.call (worth_ok w _ (by rw [hsl]; exact cut_dig (by omega) hnum.dig)) (AOk.deeper hA) (by rfl) (by rfl) (by rfl) (.cons (.sliceS (.var rfl rfl rfl) (.var rfl rfl rfl) (.var rfl rfl rfl) (by unfold sizeLine; omega)) .nil))
    · have hle := hnum.le
      have hlt := hnum.lt
      rw [flat_rng (g := fun i => worthL (cutL x.cps.toList i t1.e)) (by omega) (fun i h1 h2 => by simp)] at I4
      change Inv _ (("lines", .l aL ((lsOf x.cps.toList t1).map pI)) :: _) _ _ at I4
      have hlsl : (lsOf x.cps.toList t1).length = t1.e - t1.a := by simp [lsOf]
      have hls0 : ((lsOf x.cps.toList t1).map pI)[ix 0 ((lsOf x.cps.toList t1).map pI).length]? = some (pI ((lsOf x.cps.toList t1).headD 0)) := by
        have e0 : ∀ n, ix 0 n = 0 := fun n => by simp [ix]
        rw [e0]
        cases hh : lsOf x.cps.toList t1 with
        | nil => rw [hh] at hlsl; simp at hlsl; omega
        | cons a r => rfl
      match rest, hok2 with
      | t2 :: rest2, hok2 =>
      have hb2 := hbd t2 (by rw [← List.mem_reverse, hr]; exact .tail _ (.head _))
      refine W.unpack (as := [.int t2.k, .int t2.a, .int t2.e]) [(_, _), (_, _), (_, _)] hA.handled I4 (.item (.var rfl rfl rfl) (.neg .cInt) (get 1 t2 rfl) (by simp at h1 ⊢; omega) (by decide)) rfl rfl ?_ (fun s₅ I5 => ?_)
      · simp only [List.forall_mem_cons]
        exact ⟨.inl rfl, .inl rfl, .inl rfl, by simp⟩
      change Inv _ (("hard", cI t2.e) :: ("begin", cI t2.a) :: ("mark", cI t2.k) :: ("lines", .l aL ((lsOf x.cps.toList t1).map pI)) :: _) _ _ at I5
      refine W.ite (b := marked t2 t1) I5 ?_ (fun s₆ I6 => ?_)
      · rw [marked_eq]
        exact .and2 (.cmp (.var rfl rfl rfl) (.list (ps := ([14, 15] : List Int).map pI) (by exact .cons .cInt (.cons .cInt .nil))) .inI) (fun _ => .cmp (.var rfl rfl rfl) (.var rfl rfl rfl) .eq)
      · cases hmk : marked t2 t1 with
        | true =>
          rw [if_pos rfl]
          match rest2, hok2 hmk with
          | t3 :: rest3, _ =>
          have hb3 := hbd t3 (by rw [← List.mem_reverse, hr]; exact .tail _ (.tail _ (.head _)))
          refine W.assign (p := pI (if t2.k = 14 then (lsOf x.cps.toList t1).headD 0 else -(lsOf x.cps.toList t1).headD 0)) I6 (.ite (b := (t2.k == 14)) (.cmp (.var rfl rfl rfl) .cInt .eq) (fun hb => ?_) (fun hb => ?_)) (.inl rfl) (fun s₇ I7 => ?_)
          · rw [beq_iff_eq] at hb
            rw [if_pos hb]
            exact .item (.var rfl rfl rfl) .cInt hls0 (by omega) (by decide)
          · have hb' : t2.k ≠ 14 := by intro h; rw [h] at hb; simp at hb
            rw [if_neg hb']
            exact .neg (.item (.var rfl rfl rfl) .cInt hls0 (by omega) (by decide))
          · have hres : (linesR x.cps.toList ah.reverse).map pI = List.replicate ((1 + (t2.a : Int) - (t3.e : Int)).toNat) (pI (if t2.k = 14 then (lsOf x.cps.toList t1).headD 0 else -(lsOf x.cps.toList t1).headD 0)) ++ (lsOf x.cps.toList t1).map pI := by
              have : (1 + (t2.a : Int) - (t3.e : Int)).toNat = 1 + t2.a - t3.e := by omega
              rw [hr, this]
              unfold linesR
              simp only [hk2, hmk, if_true, List.map_append, List.map_replicate]
            rw [hres]
            refine W.retF I7 (.addL (.mulL (.list (ps := [_]) (by exact .cons (.var rfl rfl rfl) .nil)) (.sub (.add .cInt (.var rfl rfl rfl)) (.itemT (l := [.int t3.k, .int t3.a, .int t3.e]) (.item (.var rfl rfl rfl) (.neg .cInt) (get 2 t3 rfl) (by simp at h1 ⊢; omega) (by decide)) .cInt rfl (by decide) (by decide))) (by omega) (by omega)) (.var rfl rfl rfl) ?_) (fun b' s' e1 hb q => ⟨_, rfl, I7.toExt.trans e1, _, rfl, none_from I7.keep hb, q⟩)
            simp only [List.length_replicate, List.length_map, hlsl]; unfold sizeLine; omega
        | false =>
          rw [if_neg (by simp)]
          refine W.nil ?_
          have hres : (linesR x.cps.toList ah.reverse).map pI = List.replicate (((t1.a : Int) - (t2.e : Int)).toNat) (pI ((lsOf x.cps.toList t1).headD 0)) ++ (lsOf x.cps.toList t1).map pI := by
            have : ((t1.a : Int) - (t2.e : Int)).toNat = t1.a - t2.e := by omega
            rw [hr, this]
            unfold linesR
            simp only [hk2, hmk, if_true, List.map_append, List.map_replicate, Bool.false_eq_true, if_false]
          rw [hres]
          refine W.retF I6 (.addL (.mulL (.list (ps := [_]) (by exact .cons (.item (.var rfl rfl rfl) .cInt hls0 (by omega) (by decide)) .nil)) (.sub (.var rfl rfl rfl) (.var rfl rfl rfl)) (by omega) (by omega)) (.var rfl rfl rfl) ?_) (fun b' s' e1 hb q => ⟨_, rfl, I6.toExt.trans e1, _, rfl, none_from I6.keep hb, q⟩)
          simp only [List.length_replicate, List.length_map, hlsl]; unfold sizeLine; omega
  · rw [show ((t1.k : Int) != 2) = true by simp [hk2], if_pos rfl]
    refine W.retF I3 (.list (ps := []) (by exact .nil)) (fun b' s' e1 hb q => ⟨_, rfl, I3.toExt.trans e1, _, rfl, none_from I3.keep hb, ?_⟩)
    have : linesR x.cps.toList ah.reverse = [] := by rw [hr]; simp [linesR, hk2]
    rw [this]; exact q
end Mine

namespace Mine
def isMk (t : Tk) : Bool := t.k == 14 || t.k == 15
def mkB (t1 : Tk) (r : List Tk) : Bool := isMk t1 && match r with
  | t2 :: _ => t1.e == t2.a
  | [] => false
def sideOf (t1 : Tk) (r : List Tk) : Int := if (mkB t1 r && t1.k == 15) = true then -1 else 1
def numR (t1 : Tk) (r : List Tk) : List Tk := if mkB t1 r = true then r else t1 :: r
def csOf (l : List Nat) (sd : Int) (t : Tk) : List Int := (List.range' (t.a + 1) (t.e - t.a)).map fun j => sd * worthL (cutL l t.a j)
def colsR (l : List Nat) : List Tk → List Int
  | [] => []
  | t1 :: r => match numR t1 r with
    | tn :: tf :: _ => if tn.k = 2 then csOf l (sideOf t1 r) tn ++ List.replicate (tf.a - tn.e) ((csOf l (sideOf t1 r) tn).getLastD 0) else []
    | _ => []
def OkF (l : List Nat) : List Tk → Prop
  | [] => False
  | t1 :: r => (isMk t1 = true → r ≠ []) ∧ match numR t1 r with
    | tn :: q => tn.k = 2 → NumTk l tn ∧ q ≠ []
    | [] => False
theorem isMk_eq (t : Tk) : isMk t = ([14, 15] : List Int).any (· == t.k) := by
  have h1 : ((14 : Int) == t.k) = (t.k == 14) := by rw [Bool.eq_iff_iff, beq_iff_eq, beq_iff_eq]; exact eq_comm
  have h2 : ((15 : Int) == t.k) = (t.k == 15) := by rw [Bool.eq_iff_iff, beq_iff_eq, beq_iff_eq]; exact eq_comm
  show (t.k == 14 || t.k == 15) = ((14 : Int) == t.k || ((15 : Int) == t.k || false))
  rw [h1, h2, Bool.or_false]
theorem beq_nat (a b : Nat) : ((a : Int) == (b : Int)) = (a == b) := by rw [Bool.eq_iff_iff, beq_iff_eq, beq_iff_eq]; exact Int.ofNat_inj
theorem ix_nat (i n : Nat) : ix (i : Int) n = i := by unfold ix; rw [if_neg (by omega)]; omega
set_option maxHeartbeats 1000000 in
theorem cols_ok (w : World) (x : Str) (bh : List Tk) (hlen : x.cps.toList.length ≤ 100) (hbh : bh.length ≤ 100) (hbd : ∀ t ∈ bh, t.a ≤ 100 ∧ t.e ≤ 100) (hok : OkF x.cps.toList bh) :
    Fun prog1 w (K1 w) 2 69 [vS x, .l (bh.map tkP)] (.l ((colsR x.cps.toList bh).map pI)) := by
  intro A s vs hA amb hargs
  match vs, hargs with
  | [v, va], ⟨⟨t, hv⟩, ⟨b, hva, hL⟩, _⟩ =>
  subst hv hva
  have hxl : x.length = x.cps.toList.length := by simp [Str.length]
  refine enterC (f := 69) (σ₀ := [("text", cS x), ("behind", .l b (bh.map tkP))]) (binds := [("text", .str x t), ("behind", .ref b)]) (by rfl) (by rfl) (by have := hA.depth; omega) amb (by rfl) ?_ ?_ (fun s₁ I => ?_)
  · simp only [List.forall_mem_cons]
    exact ⟨.inr ⟨rfl, rfl⟩, .inl rfl, by simp⟩
  · simp only [List.forall_mem_cons]
    exact ⟨⟨_, ⟨t, rfl⟩, .inr ⟨rfl, rfl, rfl⟩⟩, ⟨_, ⟨rfl, hL⟩, .inl ⟨rfl, rfl⟩⟩, by simp⟩
  obtain ⟨t1, r, hbr⟩ : ∃ t1 r, bh = t1 :: r := by
    cases h : bh with
    | nil => rw [h] at hok; exact hok.elim
    | cons a r => exact ⟨a, r, rfl⟩
  subst hbr
  obtain ⟨hmr, hok⟩ := hok
  have get : ∀ (i : Nat) (t : Tk), (t1 :: r)[i]? = some t → ((t1 :: r).map tkP)[ix (i : Int) ((t1 :: r).map tkP).length]? = some (tkP t) := by
    intro i t h
    rw [ix_nat, List.getElem?_map, h]; rfl
  refine W.assign (p := pB (mkB t1 r)) I ?_ (.inl rfl) (fun s₂ I2 => ?_)
  · cases hmk : isMk t1 with
    | false =>
      have : mkB t1 r = (isMk t1 && false) := by unfold mkB; rw [hmk]; simp
      rw [this, isMk_eq]
      exact .and2 (.cmpB (.itemT (l := [.int t1.k, .int t1.a, .int t1.e]) (.item (.var rfl rfl rfl) .cInt (get 0 t1 rfl) (by omega) (by decide)) .cInt rfl (by decide) (by decide)) (.list (ps := ([14, 15] : List Int).map pI) (by exact .cons .cInt (.cons .cInt .nil))) .inI) (fun h => by rw [← isMk_eq, hmk] at h; cases h)
    | true =>
      obtain ⟨t2, r2, hr⟩ : ∃ t2 r2, r = t2 :: r2 := List.exists_cons_of_ne_nil (hmr hmk)
      have : mkB t1 r = (isMk t1 && ((t1.e : Int) == (t2.a : Int))) := by unfold mkB; rw [beq_nat, hr]
      rw [this, isMk_eq]
      exact .and2 (.cmpB (.itemT (l := [.int t1.k, .int t1.a, .int t1.e]) (.item (.var rfl rfl rfl) .cInt (get 0 t1 rfl) (by omega) (by decide)) .cInt rfl (by decide) (by decide)) (.list (ps := ([14, 15] : List Int).map pI) (by exact .cons .cInt (.cons .cInt .nil))) .inI)
        (fun _ => .cmpB (.itemT (l := [.int t1.k, .int t1.a, .int t1.e]) (.item (.var rfl rfl rfl) .cInt (get 0 t1 rfl) (by omega) (by decide)) .cInt rfl (by decide) (by decide)) (.itemT (l := [.int t2.k, .int t2.a, .int t2.e]) (.item (.var rfl rfl rfl) .cInt (get 1 t2 (by rw [hr]; rfl)) (by omega) (by decide)) .cInt rfl (by decide) (by decide)) .eq)
  obtain ⟨tn, q, hn, hok⟩ : ∃ tn q, numR t1 r = tn :: q ∧ (tn.k = 2 → NumTk x.cps.toList tn ∧ q ≠ []) := by
    cases h : numR t1 r with
    | nil => rw [h] at hok; exact hok.elim
    | cons a q => rw [h] at hok; exact ⟨a, q, rfl, hok⟩
  have getn : ∀ (i : Nat) (t : Tk), (tn :: q)[i]? = some t → (t1 :: r)[if mkB t1 r = true then i + 1 else i]? = some t := by
    intro i t h
    rw [← hn] at h
    unfold numR at h
    split at h
    · rename_i hm; rw [if_pos hm]; simpa using h
    · rename_i hm; rw [if_neg hm]; exact h
  refine W.unpack (as := [.int tn.k, .int tn.a, .int tn.e]) [(_, _), (_, _), (_, _)] hA.handled I2 (.ite (b := mkB t1 r) (.val (.var rfl rfl rfl)) (fun hm => ?_) (fun hm => ?_)) rfl rfl ?_ (fun s₃ I3 => ?_)
  · exact .item (.var rfl rfl rfl) .cInt (get 1 tn (by have := getn 0 tn rfl; rw [if_pos hm] at this; exact this)) (by omega) (by decide)
  · exact .item (.var rfl rfl rfl) .cInt (get 0 tn (by have := getn 0 tn rfl; rw [if_neg (by rw [hm]; simp)] at this; exact this)) (by omega) (by decide)
  · simp only [List.forall_mem_cons]
    exact ⟨.inl rfl, .inr ⟨rfl, _, rfl, Heap.get?_none_of_le (by show s.heap.objs.size ≤ s.heap.objs.size + 1 + 1; omega)⟩, .inl rfl, by simp⟩
  change Inv _ [("end", cI tn.e), ("at", cI tn.a), ("kind", cI tn.k), ("marked", cB (mkB t1 r)), ("text", cS x), ("behind", .l b ((t1 :: r).map tkP))] g0 s₃ at I3
  refine W.ite I3 (.cmp (.var rfl rfl rfl) .cInt .ne) (fun s₄ I4 => ?_)
  by_cases hk2 : tn.k = 2
  · obtain ⟨hnum, hq⟩ := hok hk2
    obtain ⟨tf, q2, hq2⟩ : ∃ tf q2, q = tf :: q2 := List.exists_cons_of_ne_nil hq
    have hbn := hbd tn (List.mem_of_getElem? (getn 0 tn rfl))
    have hbf := hbd tf (List.mem_of_getElem? (getn 1 tf (by rw [hq2]; rfl)))
    have hle := hnum.le
    have hlt := hnum.lt
    rw [show ((tn.k : Int) != 2) = false by rw [hk2]; rfl, if_neg (by simp)]
    refine W.nil ?_
    refine W.assign (p := pI (sideOf t1 r)) I4 (.ite (b := (mkB t1 r && (t1.k == 15))) (.and2 (.val (.var rfl rfl rfl)) (fun _ => .cmp (.itemT (l := [.int t1.k, .int t1.a, .int t1.e]) (.item (.var rfl rfl rfl) .cInt (get 0 t1 rfl) (by omega) (by decide)) .cInt rfl (by decide) (by decide)) .cInt .eq)) (fun hb => ?_) (fun hb => ?_)) (.inr ⟨rfl, _, rfl, Heap.get?_none_of_le (by show s.heap.objs.size ≤ s.heap.objs.size + 1 + 1 + 1; omega)⟩) (fun s₅ I5 => ?_)
    · have : sideOf t1 r = -1 := by unfold sideOf; rw [if_pos hb]
      rw [this]; exact .neg .cInt
    · have : sideOf t1 r = 1 := by unfold sideOf; rw [if_neg (by rw [hb]; simp)]
      rw [this]; exact .cInt
    have hsd : IntMulOk (sideOf t1 r) = IntMulOk (sideOf t1 r) := rfl
    have hsd : ∀ j, IntMulOk (sideOf t1 r) j := by
      intro j
      unfold sideOf
      split <;> exact .of_left (by decide +kernel)
    refine W.assignComp [("text", s.heap.objs.size + 1), ("side", s.heap.objs.size + 1 + 1 + 1), ("at", s.heap.objs.size + 1 + 1)] [("text", cS x), ("side", cI (sideOf t1 r)), ("at", cI tn.a)] (fun p => match p with | .a (.int i) => [pI (sideOf t1 r * worthL (cutL x.cps.toList tn.a i.toNat))] | _ => []) I5
      (.range2 (m := (tn.a : Int) + 1) (n := (tn.e : Int) + 1) hA.handled (.add (.var rfl rfl rfl) .cInt) (.add (.var rfl rfl rfl) .cInt) (by rfl) (by rfl) (by omega) (by omega)) ⟨by rfl, by decide, by rfl, by decide, by rfl, ?_, ?_⟩ ?_ (by rfl) (by rfl) (fun C B p γ' hp => ?_) (fun aL s₆ haL I6 => ?_)
    · exact cels_of (by simp only [List.forall_mem_cons]; exact ⟨rfl, rfl, rfl, by simp⟩)
    · simp only [List.forall_mem_cons]
      exact ⟨⟨rfl, rfl, rfl, by decide, fun C => (by show some NameKind.cell ≠ some NameKind.local; decide)⟩, ⟨rfl, rfl, rfl, by decide, fun C => (by show some NameKind.cell ≠ some NameKind.local; decide)⟩, ⟨rfl, rfl, rfl, by decide, fun C => (by show some NameKind.cell ≠ some NameKind.local; decide)⟩, by simp⟩
    · rw [rng_length]; unfold sizeLine; omega
    · obtain ⟨i, rfl, hi⟩ := rng_mem hp
      have hnn : ((tn.a : Int) + 1 + (i : Nat)).toNat = tn.a + 1 + i := by omega
      have hsl := slice_cps (x := x) (i := tn.a) (j := tn.a + 1 + i) (by omega) (by omega)
      rw [show (((tn.a + 1 + i : Nat)) : Int) = (tn.a : Int) + 1 + (i : Nat) by omega] at hsl
      show Turn _ _ _ _ _ [pI (sideOf t1 r * worthL (cutL x.cps.toList tn.a ((tn.a : Int) + 1 + (i : Nat)).toNat))]
      rw [hnn, ← hsl]
      refine .one (.mul (.var rfl rfl rfl) (.call (worth_ok w _ ?_) (AOk.deeper hA) (by rfl) (by rfl) (by rfl) (.cons (.sliceS (.var rfl rfl rfl) (.var rfl rfl rfl) (.var rfl rfl rfl) (by unfold sizeLine; omega)) .nil)) (hsd _))
      rw [hsl]
      intro d hd
      refine hnum.dig d ?_
      unfold cutL at hd ⊢
      rw [List.drop_take] at hd ⊢
      exact List.mem_of_mem_take (i := tn.a + 1 + i - tn.a) (by rw [List.take_take, Nat.min_eq_left (by omega)]; exact hd)
    · have hrg : rng ((tn.a : Int) + 1) ((tn.e : Int) + 1) = rng ((tn.a + 1 : Nat) : Int) ((tn.e + 1 : Nat) : Int) := by rw [Int.natCast_add, Int.natCast_add]; rfl
      rw [hrg, flat_rng (a := tn.a + 1) (e := tn.e + 1) (g := fun j => sideOf t1 r * worthL (cutL x.cps.toList tn.a j)) (by omega) (fun i h1 h2 => by simp)] at I6
      have hcs : (List.range' (tn.a + 1) (tn.e + 1 - (tn.a + 1))).map (fun j => sideOf t1 r * worthL (cutL x.cps.toList tn.a j)) = csOf x.cps.toList (sideOf t1 r) tn := by
        unfold csOf; rw [show tn.e + 1 - (tn.a + 1) = tn.e - tn.a by omega]
      rw [hcs] at I6
      have hcl : (csOf x.cps.toList (sideOf t1 r) tn).length = tn.e - tn.a := by simp [csOf]
      have hlast : ((csOf x.cps.toList (sideOf t1 r) tn).map pI)[ix (-1) ((csOf x.cps.toList (sideOf t1 r) tn).map pI).length]? = some (pI ((csOf x.cps.toList (sideOf t1 r) tn).getLastD 0)) := by
        have e0 : ∀ n, 0 < n → ix (-1) n = n - 1 := fun n hn => by unfold ix; rw [if_pos (by omega)]; omega
        rw [e0 _ (by rw [List.length_map]; omega), List.getElem?_map, List.length_map, ← List.getLast?_eq_getElem?]
        cases hh : csOf x.cps.toList (sideOf t1 r) tn with
        | nil => rw [hh] at hcl; simp at hcl; omega
        | cons a r => simp [List.getLast?_cons]
      refine W.assign (p := pI ((tf.a : Int) - (tn.e : Int))) I6 (.sub (.itemT (l := [.int tf.k, .int tf.a, .int tf.e]) (.item (p := tkP tf) (k := if mkB t1 r = true then 2 else 1) (.var rfl rfl rfl) (.ite (b := mkB t1 r) (.val (.var rfl rfl rfl)) (fun hm => ?_) (fun hm => ?_)) ?_ ?_ ?_) .cInt rfl (by decide) (by decide)) (.var rfl rfl rfl)) (.inl rfl) (fun s₇ I7 => ?_)
      · rw [if_pos hm]; exact .cInt
      · rw [if_neg (by rw [hm]; simp)]; exact .cInt
      · have h := getn 1 tf (by rw [hq2]; rfl)
        split
        · rename_i hm; rw [if_pos hm] at h; exact get 2 tf h
        · rename_i hm; rw [if_neg hm] at h; exact get 1 tf h
      · split <;> omega
      · split <;> decide
      · have hres : (colsR x.cps.toList (t1 :: r)).map pI = (csOf x.cps.toList (sideOf t1 r) tn).map pI ++ List.replicate (((tf.a : Int) - (tn.e : Int)).toNat) (pI ((csOf x.cps.toList (sideOf t1 r) tn).getLastD 0)) := by
          have : ((tf.a : Int) - (tn.e : Int)).toNat = tf.a - tn.e := by omega
          rw [this]
          unfold colsR
          simp only [hn, hq2, hk2, if_true, List.map_append, List.map_replicate]
        rw [hres]
        refine W.retF I7 (.addL (.var rfl rfl rfl) (.mulL (.list (ps := [_]) (by exact .cons (.item (.var rfl rfl rfl) (.neg .cInt) hlast (by rw [List.length_map, hcl]; omega) (by decide)) .nil)) (.var rfl rfl rfl) (by omega) (by omega)) ?_) (fun b' s' e1 hb q => ⟨_, rfl, I7.toExt.trans e1, _, rfl, none_from I7.keep hb, q⟩)
        simp only [List.length_replicate, List.length_map, hcl]; unfold sizeLine; omega
  · rw [show ((tn.k : Int) != 2) = true by simp [hk2], if_pos rfl]
    refine W.retF I4 (.list (ps := []) (by exact .nil)) (fun b' s' e1 hb q => ⟨_, rfl, I4.toExt.trans e1, _, rfl, none_from I4.keep hb, ?_⟩)
    have : colsR x.cps.toList (t1 :: r) = [] := by
      unfold colsR
      simp only [hn]
      split
      · rename_i h; cases h; rw [if_neg hk2]
      · rfl
    rw [this]; exact q
end Mine

namespace Mine
def pairP (p : Int × Int) : Pt := .t [.int p.1, .int p.2]
def pairsOf (ls cs : List Int) : List (Int × Int) := ls.flatMap fun a => cs.map fun b => (a, b)
/-- what the points up to the k-th token give -/
def placeAt (l : List Nat) (ts : List Tk) (k : Nat) : List (Int × Int) := match ts[k]? with
  | some t => if t.k = 23 then pairsOf (linesR l (ts.take k).reverse) (colsR l (ts.drop (k + 1))) else []
  | none => []
def placesUp (l : List Nat) (ts : List Tk) (k : Nat) : List (Int × Int) := (List.range k).flatMap (placeAt l ts)
theorem placesUp_succ (l : List Nat) (ts : List Tk) (k : Nat) : placesUp l ts (k + 1) = placesUp l ts k ++ placeAt l ts k := by simp [placesUp, List.range_succ, List.flatMap_append]
structure Toks (l : List Nat) (ts : List Tk) : Prop where
  len : ts.length ≤ 19
  bd : ∀ t ∈ ts, t.a ≤ 17 ∧ t.e ≤ 17
  ok : ∀ k t, ts[k]? = some t → t.k = 23 → OkR l (ts.take k).reverse ∧ OkF l (ts.drop (k + 1))
theorem lines_len {l : List Nat} {ra : List Tk} (h : ∀ t ∈ ra, t.a ≤ 17 ∧ t.e ≤ 17) : (linesR l ra).length ≤ 40 := by
  unfold linesR
  split
  · rename_i t1 rest
    have h1 := h t1 (.head _)
    split
    · split
      · rename_i t2 rest2
        have h2 := h t2 (.tail _ (.head _))
        split
        · split
          · simp [lsOf]; omega
          · simp
        · simp [lsOf]; omega
      · simp
    · simp
  · simp
theorem cols_len {l : List Nat} {bh : List Tk} (h : ∀ t ∈ bh, t.a ≤ 17 ∧ t.e ≤ 17) : (colsR l bh).length ≤ 40 := by
  unfold colsR
  split
  · simp
  · rename_i t1 r
    have hs : ∀ t ∈ numR t1 r, t.a ≤ 17 ∧ t.e ≤ 17 := by
      intro t ht
      unfold numR at ht
      split at ht
      · exact h t (.tail _ ht)
      · exact h t ht
    split
    · rename_i tn tf q heq
      have h1 := hs tn (by rw [heq]; exact .head _)
      have h2 := hs tf (by rw [heq]; exact .tail _ (.head _))
      split
      · simp [csOf]; omega
      · simp
    · simp
theorem pairs_len (ls cs : List Int) : (pairsOf ls cs).length = ls.length * cs.length := by
  unfold pairsOf
  induction ls with
  | nil => simp
  | cons a r ih => simp only [List.flatMap_cons, List.length_append, List.length_map, List.length_cons, ih, Nat.add_mul]; omega
theorem placeAt_len {l : List Nat} {ts : List Tk} (h : Toks l ts) (k : Nat) : (placeAt l ts k).length ≤ 1600 := by
  unfold placeAt
  split
  · split
    · rw [pairs_len]
      have h1 := lines_len (l := l) (ra := (ts.take k).reverse) fun t ht => h.bd t (List.mem_of_mem_take (List.mem_reverse.mp ht))
      have h2 := cols_len (l := l) (bh := ts.drop (k + 1)) fun t ht => h.bd t (List.mem_of_mem_drop ht)
      calc _ ≤ 40 * 40 := Nat.mul_le_mul h1 h2
        _ = 1600 := rfl
    · simp
  · simp
theorem placesUp_len {l : List Nat} {ts : List Tk} (h : Toks l ts) (k : Nat) : (placesUp l ts k).length ≤ 1600 * k := by
  induction k with
  | zero => simp [placesUp]
  | succ k ih => rw [placesUp_succ, List.length_append]; have := placeAt_len h k; omega
theorem pairsOf_snoc (ls cs : List Int) (a : Int) : pairsOf (ls ++ [a]) cs = pairsOf ls cs ++ cs.map fun b => (a, b) := by simp [pairsOf]
set_option maxHeartbeats 1000000 in
theorem places_ok (w : World) (x : Str) (hx : ∀ d ∈ x.cps.toList, d ∈ sgs) (hlen : x.cps.toList.length ≤ 17) (ht : Toks x.cps.toList (tokens x.cps.toList)) :
    Fun prog1 w (K1 w) 3 74 [vS x] (.l ((placesUp x.cps.toList (tokens x.cps.toList) (tokens x.cps.toList).length).map pairP)) := by
  intro A s vs hA amb hargs
  match vs, hargs with
  | [v], ⟨⟨t, hv⟩, _⟩ =>
  subst hv
  have hxl : x.length = x.cps.toList.length := by simp [Str.length]
  refine enterC (f := 74) (σ₀ := [("text", cS x)]) (binds := [("text", .str x t)]) (by rfl) (by rfl) (by have := hA.depth; omega) amb (by rfl) ?_ ?_ (fun s₁ I => ?_)
  · simp only [List.forall_mem_cons]
    exact ⟨.inl rfl, by simp⟩
  · simp only [List.forall_mem_cons]
    exact ⟨⟨_, ⟨t, rfl⟩, .inl ⟨rfl, rfl⟩⟩, by simp⟩
  refine W.assignF I (.call (tokens_ok w x hx (by omega)) ((AOk.deeper hA).le (by decide)) (by rfl) (by rfl) (by rfl) (.cons (.var rfl rfl rfl) .nil)) (.inl rfl) (fun b s₂ hb I2 => ?_)
  generalize hts : tokens x.cps.toList = ts at ht I2 ⊢
  refine W.assignF I2 (.list (ps := []) (by exact .nil)) (.inl rfl) (fun a s₃ ha I3 => ?_)
  have haB := none_from I2.keep ha
  refine W.for_ (Rt := fun _ _ => False) (fun i => [("places", .l a ((placesUp x.cps.toList ts i).map pairP)), ("tokens", .l b (ts.map tkP)), ("text", cS x)]) I3 (by exact .range1 hA.handled (.lenL (.var rfl rfl rfl) (by rw [List.length_map]; have := ht.len; omega)) (by rfl) (by rfl) (by rw [List.length_map]; have := ht.len; omega)) (.inl rfl) (fun i p γ' s' hp hγ I4 => ?_) (fun s' I4 => ?_) (fun v s' h => h.elim)
  · obtain ⟨hpi, hlt⟩ := rng_get hp
    rw [Int.zero_add] at hpi
    subst hpi
    have hlt' : i < ts.length := by rw [List.length_map] at hlt; omega
    have hti : ts[i]? = some ts[i] := List.getElem?_eq_getElem hlt'
    generalize ts[i] = ti at hti
    have hγa : ∀ q ∈ γ'.objs, q.1 ≠ a := fun q hq => (hγ q hq).elim (fun h => by cases h) fun h => h.elim (fun h => by
      rintro rfl
      obtain ⟨vs, ⟨n, e⟩, _⟩ := I3.list (x := "places") rfl rfl
      rw [h] at e; cases e) fun h => h.elim
    have hbd : ts.length ≤ 19 := ht.len
    refine W.ite I4 (.cmp (.itemT (l := [.int ti.k, .int ti.a, .int ti.e]) (.item (.var rfl rfl rfl) (.var rfl rfl rfl) (p := tkP ti) (by rw [ix_nat, List.getElem?_map, hti]; rfl) (by omega) (by omega)) .cInt rfl (by decide) (by decide)) .cInt .eq) (fun s₅ I5 => ?_)
    by_cases h23 : ti.k = 23
    · obtain ⟨okR, okF⟩ := ht.ok i ti hti h23
      rw [show ((ti.k : Int) == 23) = true by rw [h23]; rfl, if_pos rfl]
      have hbF : ∀ t ∈ ts.drop (i + 1), t.a ≤ 100 ∧ t.e ≤ 100 := fun t h => by have := ht.bd t (List.mem_of_mem_drop h); omega
      have hbR : ∀ t ∈ ts.take i, t.a ≤ 100 ∧ t.e ≤ 100 := fun t h => by have := ht.bd t (List.mem_of_mem_take h); omega
      refine W.assignF I5 (.call (cols_ok w x (ts.drop (i + 1)) (by omega) (by rw [List.length_drop]; omega) hbF okF) (AOk.deeper hA) (by rfl) (by rfl) (by rfl) (.cons (.var rfl rfl rfl) (.cons (by
        rw [List.map_drop]
        exact .fromL (n := i + 1) (.var rfl rfl rfl) (by rw [show ((i + 1 : Nat) : Int) = (i : Int) + 1 from rfl]; exact .add (.var rfl rfl rfl) .cInt) (by rw [List.length_map]; unfold sizeLine; omega)) .nil))) (.inl rfl) (fun aC s₆ haC I6 => ?_)
      refine W.for_ (Rt := fun _ _ => False) (fun j => [("places", .l a ((placesUp x.cps.toList ts i ++ pairsOf ((linesR x.cps.toList (ts.take i).reverse).take j) (colsR x.cps.toList (ts.drop (i + 1)))).map pairP)), ("cols", .l aC ((colsR x.cps.toList (ts.drop (i + 1))).map pI)), ("k", cI i), ("tokens", .l b (ts.map tkP)), ("text", cS x)]) (I6.sub ?_) (by
          exact .fresh hA.handled (.call (lines_ok w x (ts.take i) (by omega) (by rw [List.length_take]; omega) hbR okR) (AOk.deeper hA) (by rfl) (by rfl) (by rfl) (.cons (.var rfl rfl rfl) (.cons (by
            rw [List.map_take]
            exact .uptoL (.var rfl rfl rfl) (.var rfl rfl rfl) (by rw [List.length_map]; unfold sizeLine; omega)) .nil)))) (.inr ⟨rfl, _, rfl, Heap.get?_none_of_le (by show s.heap.objs.size ≤ s.heap.objs.size + 1; omega)⟩) (fun j p γ'' s'' hp hγ'' I7 => ?_) (fun s'' I7 => ?_) (fun v s' h => h.elim)
      · simp only [List.forall_mem_cons]
        refine ⟨?_, rfl, rfl, rfl, rfl, by simp⟩
        simp only [List.take_zero]
        show some _ = some _
        simp [pairsOf]
      · rw [List.getElem?_map] at hp
        cases hln : (linesR x.cps.toList (ts.take i).reverse)[j]? with
        | none => rw [hln] at hp; cases hp
        | some ln =>
        rw [hln] at hp; cases hp
        have hll := lines_len (l := x.cps.toList) (ra := (ts.take i).reverse) fun t h => ht.bd t (List.mem_of_mem_take (List.mem_reverse.mp h))
        have hcl := cols_len (l := x.cps.toList) (bh := ts.drop (i + 1)) fun t h => ht.bd t (List.mem_of_mem_drop h)
        have hpl := placesUp_len ht i
        have hγ2 : ∀ q ∈ γ''.objs, q.1 ≠ a := fun q hq => (hγ'' q hq).elim (fun h => hγa q h) fun h => (by
          rintro rfl
          obtain ⟨vs, ⟨n, e⟩, _⟩ := I6.list (x := "places") rfl rfl
          rcases h with h | h <;> (rw [h] at e; cases e))
        refine W.extend (qs := ((colsR x.cps.toList (ts.drop (i + 1))).map fun c => (ln, c)).map pairP) I7 rfl rfl ?_ haB hγ2 ?_ (fun s₈ I8 => ?_)
        · have hfm : ((colsR x.cps.toList (ts.drop (i + 1))).map pI).flatMap (fun p => match p with | .a (.int c) => [pairP (ln, c)] | _ => []) = ((colsR x.cps.toList (ts.drop (i + 1))).map fun c => (ln, c)).map pairP := by
            generalize colsR x.cps.toList (ts.drop (i + 1)) = cs
            induction cs with
            | nil => rfl
            | cons c r ih => simp only [List.map_cons, List.flatMap_cons, ih]; rfl
          rw [← hfm]
          refine .comp [("line", s.heap.objs.size + 1)] [("line", cI ln)] _ (.any hA.handled (.var rfl rfl rfl)) ⟨by rfl, by decide, by rfl, by decide, by rfl, ?_, ?_⟩ ?_ (fun C B p γ3 hp => ?_)
          · exact cels_of (by simp only [List.forall_mem_cons]; exact ⟨rfl, by simp⟩)
          · simp only [List.forall_mem_cons]
            exact ⟨⟨rfl, rfl, rfl, by decide, fun C => (by show some NameKind.cell ≠ some NameKind.local; decide)⟩, by simp⟩
          · rw [List.length_map]; unfold sizeLine; omega
          · obtain ⟨c, _, rfl⟩ := List.mem_map.mp hp
            exact .one (.tup (xs := [.int ln, .int c]) (by exact .cons (.var rfl rfl rfl) (.cons (.var rfl rfl rfl) .nil)))
        · rw [List.length_map, List.length_map, List.length_map, List.length_append, pairs_len]
          have h1 : ((linesR x.cps.toList (ts.take i).reverse).take j).length ≤ 40 := Nat.le_trans (List.length_take_le' _ _) hll
          have h2 := Nat.mul_le_mul h1 hcl
          omega
        · refine W.nil (I8.sub ?_)
          have e1 : (linesR x.cps.toList (ts.take i).reverse).take (j + 1) = (linesR x.cps.toList (ts.take i).reverse).take j ++ [ln] := by rw [List.take_add_one, hln]; rfl
          rw [e1, pairsOf_snoc]
          simp only [List.forall_mem_cons]
          refine ⟨?_, ?_, rfl, ?_, rfl, by simp⟩
          · show some (setL a _ (.l a _)) = _
            simp [setL]
          · show some (setL a _ (.l aC _)) = _
            have : aC ≠ a := by
              rintro rfl
              obtain ⟨vs, ⟨n, e⟩, _⟩ := I5.list (x := "places") rfl rfl
              rw [haC] at e; cases e
            simp [setL, this]
          · show some (setL a _ (.l b _)) = _
            have : b ≠ a := by
              rintro rfl
              obtain ⟨vs, ⟨n, e⟩, _⟩ := I2.list (x := "tokens") rfl rfl
              rw [ha] at e; cases e
            simp [setL, this]
      · rw [List.length_map, List.take_length] at I7
        refine W.nil (W.nil (I7.sub ?_))
        have : placesUp x.cps.toList ts (i + 1) = placesUp x.cps.toList ts i ++ pairsOf (linesR x.cps.toList (ts.take i).reverse) (colsR x.cps.toList (ts.drop (i + 1))) := by
          rw [placesUp_succ]; unfold placeAt; simp only [hti, if_pos h23]
        rw [this]
        simp only [List.forall_mem_cons]
        exact ⟨rfl, rfl, rfl, by simp⟩
    · rw [show ((ti.k : Int) == 23) = false by simp [h23], if_neg (by simp)]
      refine W.nil (W.nil (I5.sub ?_))
      have : placesUp x.cps.toList ts (i + 1) = placesUp x.cps.toList ts i := by
        rw [placesUp_succ]; unfold placeAt; simp only [hti, if_neg h23, List.append_nil]
      rw [this]
      simp only [List.forall_mem_cons]
      exact ⟨rfl, rfl, rfl, by simp⟩
  · rw [rng_length, List.length_map] at I4
    simp only [Int.sub_zero, Int.toNat_natCast] at I4
    refine wpAny_execs_cons (wpAny_Return_some (var_raw I4 (x := "places") (ct := .l a _) rfl rfl (fun v q => ⟨v, rfl, I4.toExt, a, q.1, haB, q.2⟩)))
end Mine

namespace Mine
theorem isterm_ok (w : World) (i : Int) : Fun prog1 w (K1 w) 1 31 [vI i] (vB (decide (i < 256))) := by
  intro A s vs hA amb hargs
  match vs, hargs with
  | [v], ⟨⟨t, hv⟩, _⟩ =>
  subst hv
  refine enter (f := 31) (σ₀ := [("x", cI i)]) (binds := [("x", .int i t)]) (by rfl) (by rfl) (by have := hA.depth; omega) amb (by rfl) (by simp) ⟨⟨rfl, t, rfl⟩, trivial⟩ (fun s₁ I => ?_)
  exact W.ret I (.cmpB (.var rfl rfl rfl) (.globI (by rfl) (by rfl)) .lt) (fun v s' e1 q => ⟨v, rfl, I.toExt.trans e1, q⟩)
theorem isnont_ok (w : World) (i : Int) : Fun prog1 w (K1 w) 1 38 [vI i] (vB (decide (256 ≤ i))) := by
  intro A s vs hA amb hargs
  match vs, hargs with
  | [v], ⟨⟨t, hv⟩, _⟩ =>
  subst hv
  refine enter (f := 38) (σ₀ := [("x", cI i)]) (binds := [("x", .int i t)]) (by rfl) (by rfl) (by have := hA.depth; omega) amb (by rfl) (by simp) ⟨⟨rfl, t, rfl⟩, trivial⟩ (fun s₁ I => ?_)
  exact W.ret I (.cmpB (.var rfl rfl rfl) (.globI (by rfl) (by rfl)) .ge) (fun v s' e1 q => ⟨v, rfl, I.toExt.trans e1, q⟩)
theorem iseof_ok (w : World) (i : Int) : Fun prog1 w (K1 w) 1 45 [vI i] (vB (i == 0)) := by
  intro A s vs hA amb hargs
  match vs, hargs with
  | [v], ⟨⟨t, hv⟩, _⟩ =>
  subst hv
  refine enter (f := 45) (σ₀ := [("x", cI i)]) (binds := [("x", .int i t)]) (by rfl) (by rfl) (by have := hA.depth; omega) amb (by rfl) (by simp) ⟨⟨rfl, t, rfl⟩, trivial⟩ (fun s₁ I => ?_)
  exact W.ret I (.cmpB (.var rfl rfl rfl) (.globI (by rfl) (by rfl)) .eq) (fun v s' e1 q => ⟨v, rfl, I.toExt.trans e1, q⟩)
/-! ## what the law builds -/
def sg16 : List Nat := [48, 49, 50, 51, 52, 53, 54, 55, 56, 57, 46, 46, 43, 45, 32, 61]
def sgOf (x : Int) : Nat := sg16.getD (x.fmod 16).toNat 0
def textL (ns : List Int) : List Nat := (ns.take 12).map sgOf ++ [50, 53, 54, 46, 48]
def strL (l : List Nat) : Str := ⟨l.toArray⟩
theorem strL_cps (l : List Nat) : (strL l).cps.toList = l := by simp [strL]
theorem strL_length (l : List Nat) : (strL l).length = l.length := by simp [strL, Str.length]
theorem sgs_fit : ∀ d ∈ sgs, 0 < d ∧ d < 128 := by decide
theorem sg16_mem : ∀ d ∈ sg16, d ∈ sgs := by decide
theorem fmod16 (x : Int) : 0 ≤ x.fmod 16 ∧ x.fmod 16 < 16 := ⟨Int.fmod_nonneg_of_pos x (by decide), Int.fmod_lt_of_pos x (by decide)⟩
theorem sgOf_get (x : Int) : sg16[(x.fmod 16).toNat]? = some (sgOf x) := by
  have h := fmod16 x
  have : (x.fmod 16).toNat < sg16.length := by show _ < 16; omega
  unfold sgOf
  rw [List.getD_eq_getElem?_getD, List.getElem?_eq_getElem this]; rfl
theorem tail_sgs : ∀ d ∈ [50, 53, 54, 46, 48], d ∈ sgs := by decide
theorem textL_sgs (ns : List Int) : ∀ d ∈ textL ns, d ∈ sgs := by
  intro d hd
  unfold textL at hd
  rcases List.mem_append.mp hd with h | h
  · obtain ⟨x, _, rfl⟩ := List.mem_map.mp h
    exact sg16_mem _ (List.mem_of_getElem? (sgOf_get x))
  · exact tail_sgs d h
theorem textL_len (ns : List Int) : (textL ns).length ≤ 17 := by unfold textL; simp; omega
theorem mem_cut {l : List Nat} {i j d : Nat} (h : d ∈ cutL l i j) : d ∈ l := List.mem_of_mem_take (List.mem_of_mem_drop h)
/-- what get_line_col gives for the stretches from i on up to before j -/
def toldRow (l : List Nat) (i n : Nat) : List (Int × Int) := (List.range' (i + 1) n).flatMap fun j => (lc (strL (cutL l i j))).toList
def toldUp (l : List Nat) (k : Nat) : List (Int × Int) := (List.range k).flatMap fun i => toldRow l i (l.length - i)
theorem toldUp_succ (l : List Nat) (k : Nat) : toldUp l (k + 1) = toldUp l k ++ toldRow l k (l.length - k) := by simp [toldUp, List.range_succ, List.flatMap_append]
theorem toldRow_succ (l : List Nat) (i n : Nat) : toldRow l i (n + 1) = toldRow l i n ++ (lc (strL (cutL l i (i + 1 + n)))).toList := by
  unfold toldRow
  rw [List.range'_concat, List.flatMap_append]; simp
theorem toldL_eq (x : Str) : toldL x = (lc x).toList.map pairP := by
  unfold toldL
  cases lc x with
  | none => rfl
  | some p => rfl
theorem toldRow_len (l : List Nat) (i n : Nat) : (toldRow l i n).length ≤ n := by
  induction n with
  | zero => simp [toldRow]
  | succ n ih => rw [toldRow_succ, List.length_append]; have : (lc (strL (cutL l i (i + 1 + n)))).toList.length ≤ 1 := by cases lc _ <;> simp
                 omega
theorem toldUp_len (l : List Nat) (k : Nat) : (toldUp l k).length ≤ l.length * k := by
  induction k with
  | zero => simp [toldUp]
  | succ k ih => rw [toldUp_succ, List.length_append, Nat.mul_succ]; have := toldRow_len l k (l.length - k); omega
theorem str_append_cps (x y : Str) : (x ++ y).cps.toList = x.cps.toList ++ y.cps.toList := by
  show (x.cps ++ y.cps).toList = _
  simp
theorem glued_mem {y : Str} : ∀ {ps : List Str} {p : Str}, p ∈ ps → ∀ d ∈ p.cps.toList, d ∈ (Str.join y ps).cps.toList
  | [], p, h, d, hd => by cases h
  | [x], p, h, d, hd => by
    rw [List.mem_singleton] at h; subst h; exact hd
  | x :: x' :: r, p, h, d, hd => by
    show d ∈ (x ++ y ++ Str.join y (x' :: r)).cps.toList
    rw [str_append_cps, str_append_cps]
    rcases List.mem_cons.mp h with rfl | h
    · simp [hd]
    · have := glued_mem (y := y) h d hd
      simp [this]
theorem split_mem {x : Str} {p : Str} (h : p ∈ Txt.split x dotS) : ∀ d ∈ p.cps.toList, d ∈ x.cps.toList := by
  intro d hd
  have := glued_mem (y := dotS) h d hd
  rwa [PySem.StrLaws.join_split] at this
theorem split_len {x : Str} {p : Str} (h : p ∈ Txt.split x dotS) : p.length ≤ x.length := by
  have aux : ∀ (ps : List Str), p ∈ ps → p.length ≤ (Str.join dotS ps).length := by
    intro ps
    induction ps with
    | nil => intro h; cases h
    | cons x r ih =>
      intro h
      cases r with
      | nil => rw [List.mem_singleton] at h; subst h; exact Nat.le_refl _
      | cons x' r =>
        show p.length ≤ (x ++ dotS ++ Str.join dotS (x' :: r)).length
        rw [Str.length_append, Str.length_append]
        rcases List.mem_cons.mp h with rfl | h
        · omega
        · have := ih h; omega
  have := aux _ h
  rwa [PySem.StrLaws.join_split] at this
theorem fit_of {l : List Nat} (h : ∀ d ∈ l, d ∈ sgs) (hl : l.length ≤ 600) : Fit (strL l) := by
  refine ⟨by rw [strL_length]; omega, fun p hp => ⟨?_, fun d hd => sgs_fit d (h d ?_)⟩⟩
  · have := split_len hp; rw [strL_length] at this; omega
  · have := split_mem hp d hd; rwa [strL_cps] at this
theorem join_ones' (ds : List Nat) : Txt.join (Str.ofString "") (ds.map fun d => (⟨#[d]⟩ : Str)) = strL ds := by
  rw [eq_of_beq (join_closes (ys := ds.map fun d => (⟨#[d]⟩ : Str)) (show Str.ofString "" = ⟨#[]⟩ by decide))]
  induction ds with
  | nil => rfl
  | cons d r ih =>
    cases r with
    | nil => rfl
    | cons d' r =>
      show (⟨#[d]⟩ : Str) ++ (⟨#[]⟩ : Str) ++ Str.join ⟨#[]⟩ ((d' :: r).map fun d => (⟨#[d]⟩ : Str)) = _
      rw [ih]
      apply Str.ext'
      apply Array.toList_inj.mp
      rw [str_append_cps, str_append_cps, strL_cps, strL_cps]; rfl
theorem strL_append (a b : List Nat) : strL a ++ strL b = strL (a ++ b) := by
  apply Str.ext'
  apply Array.toList_inj.mp
  rw [str_append_cps, strL_cps, strL_cps, strL_cps]
theorem slice_strL {l : List Nat} {i j : Nat} (hij : i ≤ j) (hj : j ≤ l.length) : Txt.slice (strL l) (some (i : Int)) (some (j : Int)) = strL (cutL l i j) := by
  apply Str.ext'
  apply Array.toList_inj.mp
  rw [slice_cps hij (by rw [strL_length]; exact hj), strL_cps, strL_cps]
/-- the law's own frame -/
noncomputable abbrev lawCx (w : World) (s₁ : Shared) (qual : Str) (scope : Scope) (fa : Addr) (cdv : Value) : Cx :=
  ⟨prog1, w, K1 w, callerA.deeper (envOf qual scope s₁.heap.objs.size fa cdv), s₁, envOf qual scope s₁.heap.objs.size fa cdv⟩
theorem start {w : World} {s₁ : Shared} {h₁ : Heap} {qual : Str} {scope : Scope} {fa : Addr} {cdv : Value} {a : Addr} {ns : List Int} {tk : Nat} {m : Str → Option Value} {body : List Stmt} {Q : Flow → Shared → Prop} {E : Value → Shared → Prop}
    (F : Fr s₁.heap s₁.heap.objs.size h₁ m) (hm : m "script" = some (.ref a)) (hk : scope.kind = .function) (hks : scope.names.lookup ("script" : Str) = some NameKind.local) (amb : Amb (K1 w) s₁.heap) (hl : Lst s₁.heap a (ns.map pI))
    (k : ∀ s, Inv (lawCx w s₁ qual scope fa cdv) [("script", .l a (ns.map pI))] g0 s → W (lawCx w s₁ qual scope fa cdv) body Q E s) :
    wpAny (model prog1 w) (callerA.deeper (envOf qual scope s₁.heap.objs.size fa cdv)) (execs body (envOf qual scope s₁.heap.objs.size fa cdv)) Q E { s₁ with heap := h₁, toks := tk } := by
  refine k _ ⟨amb, F.keep, rfl, ⟨hk, rfl, rfl, Heap.get?_none_of_le (Nat.le_refl _), ⟨m, F.ns, fun x ct e _ => ?_⟩, fun x c e => (by cases e), fun x y c e => (by cases e), fun x ct e hkx => ?_⟩, fun q hq => (by cases hq), keepT0⟩
  · rw [List.lookup_cons] at e
    cases hx : x == ("script" : Str) with
    | false => rw [hx] at e; cases e
    | true =>
      rw [hx] at e; cases e
      rw [beq_iff_eq.mp hx]
      exact ⟨_, hm, rfl, hl.keep F.keep⟩
  · rw [List.lookup_cons] at e
    cases hx : x == ("script" : Str) with
    | false => rw [hx] at e; cases e
    | true =>
      rw [hx] at e; cases e
      rw [beq_iff_eq.mp hx] at hkx
      have e2 : (envOf qual scope s₁.heap.objs.size fa cdv).kindOf "script" = some .local := hks
      rcases hkx with q | q <;> (rw [e2] at q; cases q)
theorem ans_eq (i : Int) : [pB (decide (i < 256)), pB (decide (256 ≤ i)), pB (i == 0)] = [pB (decide (i.fdiv 256 < 1)), pB (decide (0 < i.fdiv 256)), pB (decide ((if i < 0 then -i else i) < 1))] := by
  have e : i.fdiv 256 = i / 256 := Int.fdiv_eq_ediv_of_nonneg i (by decide)
  rw [e]
  have h1 : decide (i < 256) = decide (i / 256 < 1) := by rw [decide_eq_decide]; omega
  have h2 : decide (256 ≤ i) = decide (0 < i / 256) := by rw [decide_eq_decide]; omega
  have h3 : (i == 0) = decide ((if i < 0 then -i else i) < 1) := by
    rw [Bool.eq_iff_iff, beq_iff_eq, decide_eq_true_eq]
    split <;> omega
  rw [h1, h2, h3]
end Mine

namespace Mine
/-! ## int of a text, plainly -/
def isBl (d : Nat) : Bool := d == 32
def okD (l : List Nat) : Bool := (l.dropWhile isDg).all isBl
def dB (l : List Nat) : Option Int := if (!(l.takeWhile isDg).isEmpty && okD l) = true then some (worthL (l.takeWhile isDg)) else none
def iTL : List Nat → Option Int
  | [] => none
  | d :: r => if d = 32 then iTL r else if d = 43 then dB r else if d = 45 then (dB r).map fun v => -v else dB (d :: r)
structure Bad (w : List Nat) : Prop where
  b : w.all isBl = false
  d : okD w = false
  s : dB w = none
  i : iTL w = none
theorem dB_nondig {e : Nat} {w : List Nat} (h : isDg e = false) : dB (e :: w) = none := by
  unfold dB; rw [List.takeWhile_cons, h]; simp
theorem okD_nondig {e : Nat} {w : List Nat} (h : isDg e = false) : okD (e :: w) = (e :: w).all isBl := by
  unfold okD; rw [List.dropWhile_cons, h]; simp
theorem okD_dig {e : Nat} {w : List Nat} (h : isDg e = true) : okD (e :: w) = okD w := by
  unfold okD; rw [List.dropWhile_cons, h]; simp
theorem dB_okD {w : List Nat} (h : okD w = false) : dB w = none := by unfold dB; rw [h]; simp
theorem dig32 : isDg 32 = false := rfl
theorem Bad.cons {w : List Nat} (x : Bad w) (e : Nat) : Bad (e :: w) := by
  have hb : (e :: w).all isBl = false := by simp only [List.all_cons, x.b, Bool.and_false]
  have hd : okD (e :: w) = false := by
    cases h : isDg e with
    | true => rw [okD_dig h]; exact x.d
    | false => rw [okD_nondig h]; exact hb
  refine ⟨hb, hd, dB_okD hd, ?_⟩
  unfold iTL
  rw [x.i, x.s, dB_okD hd]; simp
theorem Bad.app {w : List Nat} (x : Bad w) : ∀ y : List Nat, Bad (y ++ w)
  | [] => x
  | e :: y => (Bad.app x y).cons e
theorem Bad.head {e : Nat} {w : List Nat} (h : e ≠ 32) (h1 : isDg e = true → okD w = false) (h2 : e = 43 ∨ e = 45 → dB w = none) : Bad (e :: w) := by
  have hb : (e :: w).all isBl = false := by simp [isBl, h]
  have hd : okD (e :: w) = false := by
    cases hh : isDg e with
    | true => rw [okD_dig hh]; exact h1 hh
    | false => rw [okD_nondig hh]; exact hb
  refine ⟨hb, hd, dB_okD hd, ?_⟩
  unfold iTL
  rw [if_neg h, dB_okD hd]
  by_cases h43 : e = 43
  · rw [if_pos h43, h2 (.inl h43)]
  · rw [if_neg h43]
    by_cases h45 : e = 45
    · rw [if_pos h45, h2 (.inr h45)]; rfl
    · rw [if_neg h45]
abbrev bl (n : Nat) : List Nat := List.replicate n 32
theorem bl_all (n : Nat) : (bl n).all isBl = true := by
  rw [List.all_eq_true]; intro d hd; rw [List.mem_replicate] at hd; simp [isBl, hd.2]
theorem iTL_bl (n : Nat) (z : List Nat) : iTL (bl n ++ z) = iTL z := by
  induction n with
  | zero => rfl
  | succ n ih =>
    exact (show iTL (32 :: (bl n ++ z)) = iTL (bl n ++ z) from rfl).trans ih
theorem take_digs {D z : List Nat} (h : ∀ d ∈ D, isDg d = true) (hz : ∀ e r, z = e :: r → isDg e = false) : (D ++ z).takeWhile isDg = D ∧ (D ++ z).dropWhile isDg = z := by
  induction D with
  | nil =>
    cases z with
    | nil => exact ⟨rfl, rfl⟩
    | cons e r => have := hz e r rfl; constructor <;> simp [this]
  | cons d D ih =>
    have h1 := h d (.head _)
    have := ih fun e he => h e (.tail _ he)
    rw [List.cons_append, List.takeWhile_cons, List.dropWhile_cons, h1]
    exact ⟨by simp [this.1], by simp [this.2]⟩
theorem bl_head {n : Nat} {e : Nat} {r : List Nat} (h : bl n = e :: r) : isDg e = false := by
  have : e ∈ bl n := by rw [h]; exact .head _
  rw [List.mem_replicate] at this; rw [this.2]; rfl
theorem dB_good {D : List Nat} (b : Nat) (h : ∀ d ∈ D, isDg d = true) (hne : D ≠ []) : dB (D ++ bl b) = some (worthL D) := by
  obtain ⟨h1, h2⟩ := take_digs (z := bl b) h fun e r q => bl_head q
  unfold dB okD
  rw [h1, h2, bl_all]
  cases D with
  | nil => exact absurd rfl hne
  | cons d D => rfl
theorem dB_bl (b : Nat) : dB (bl b) = none := by
  cases b with
  | zero => rfl
  | succ b => exact dB_nondig (e := 32) rfl
theorem iTL_nosgn {e : Nat} {w : List Nat} (h : e ≠ 32) (h1 : e ≠ 43) (h2 : e ≠ 45) : iTL (e :: w) = dB (e :: w) := by
  rw [iTL.eq_def]; simp only [if_neg h, if_neg h1, if_neg h2]
theorem iTL_good {D : List Nat} (b : Nat) (h : ∀ d ∈ D, isDg d = true) (hne : D ≠ []) : iTL (D ++ bl b) = some (worthL D) := by
  rw [← dB_good b h hne]
  cases D with
  | nil => exact absurd rfl hne
  | cons d D =>
    have hd := isDg_iff.mp (h d (.head _))
    have := hd.1; have := hd.2
    exact iTL_nosgn (by omega) (by omega) (by omega)
theorem iTL_plus (w : List Nat) : iTL (43 :: w) = dB w := rfl
theorem iTL_minus (w : List Nat) : iTL (45 :: w) = (dB w).map fun v => -v := rfl
theorem iTL_blank (b : Nat) : iTL (bl b) = none := by have := iTL_bl b []; rw [List.append_nil] at this; exact this
theorem bad_dot (w : List Nat) : Bad (46 :: w) := .head (by decide) (fun h => by cases h) (fun h => by omega)
theorem iTL_dot {l : List Nat} (h : 46 ∈ l) : iTL l = none := by
  obtain ⟨x, y, rfl⟩ := List.append_of_mem h
  exact ((bad_dot y).app x).i
/-! ## the model's int of a text -/
open NumText
theorem digit_sgs : ∀ d ∈ sgs, isDg d = false → ∀ p, step 10 p d = none := by
  intro d hd h p
  have : d = 46 ∨ d = 43 ∨ d = 45 ∨ d = 61 ∨ d = 32 := by revert h; revert d; decide
  rcases this with rfl | rfl | rfl | rfl | rfl <;> rfl
theorem foldl_bad : ∀ (cs : List Nat) (p : Array Nat × Bool), (∀ d ∈ cs, d ∈ sgs) → (∃ d ∈ cs, isDg d = false) → cs.foldlM (step 10) p = none
  | [], p, h, hb => by obtain ⟨d, hd, _⟩ := hb; cases hd
  | c :: cs, (ds, q), h, hb => by
    rw [List.foldlM_cons]
    cases hc : isDg c with
    | false => rw [digit_sgs c (h c (.head _)) hc]; rfl
    | true =>
      rw [step_digit (isDg_iff.mp hc)]
      refine foldl_bad cs _ (fun d hd => h d (.tail _ hd)) ?_
      obtain ⟨d, hd, hd2⟩ := hb
      rcases List.mem_cons.mp hd with rfl | hd
      · rw [hc] at hd2; cases hd2
      · exact ⟨d, hd, hd2⟩
theorem digits_bad {cs : List Nat} (h : ∀ d ∈ cs, d ∈ sgs) (hb : ∃ d ∈ cs, isDg d = false) : digits? 10 cs = none := by
  unfold digits?; rw [foldl_bad cs _ h hb]; rfl
def rst (l : List Nat) : List Nat := (l.reverse.dropWhile blank).reverse
theorem blank_sgs : ∀ d ∈ sgs, blank d = isBl d := by decide
theorem blank_bl (b : Nat) : (bl b).dropWhile blank = [] := by
  induction b with
  | zero => rfl
  | succ b ih => show (32 :: bl b).dropWhile blank = []; rw [List.dropWhile_cons]; exact ih
theorem rst_app {x y : List Nat} (h : (y.reverse.dropWhile blank) ≠ []) : rst (x ++ y) = x ++ rst y := by
  unfold rst
  rw [List.reverse_append, List.dropWhile_append, if_neg (by simpa using h), List.reverse_append, List.reverse_reverse]
theorem rst_bl (x : List Nat) (b : Nat) : rst (x ++ bl b) = rst x := by
  unfold rst
  rw [List.reverse_append, List.dropWhile_append, List.reverse_replicate, blank_bl]; rfl
theorem digVal : ∀ (cs : List Nat) (a : Nat), (∀ d ∈ cs, isDg d = true) → ((cs.foldl (fun acc c => acc * 10 + (c - 48)) a : Nat) : Int) = cs.foldl (fun a (d : Nat) => 10 * a + ((d : Int) - 48)) (a : Int)
  | [], a, _ => rfl
  | c :: cs, a, h => by
    have hc := isDg_iff.mp (h c (.head _))
    rw [List.foldl_cons, List.foldl_cons, digVal cs _ fun d hd => h d (.tail _ hd)]
    congr 1
    have := hc.1
    omega
theorem worth_eq {cs : List Nat} (n : Bool) (h : ∀ d ∈ cs, isDg d = true) : NumText.worth n (cs.foldl (fun acc c => acc.push (c - 48)) #[]) = if n then -worthL cs else worthL cs := by
  have hv := push_foldl cs #[]
  have := digVal cs 0 h
  unfold NumText.worth worthL
  rw [hv]
  show (if n = true then -(((cs.foldl (fun acc c => acc * 10 + (c - 48)) 0 : Nat)) : Int) else (((cs.foldl (fun acc c => acc * 10 + (c - 48)) 0 : Nat)) : Int)) = _
  rw [this]; rfl
theorem dropWhile_nil {p : Nat → Bool} : ∀ {l : List Nat}, l.dropWhile p = [] → ∀ d ∈ l, p d = true
  | [], _, d, hd => by cases hd
  | c :: l, h, d, hd => by
    rw [List.dropWhile_cons] at h
    split at h
    · rename_i hc
      rcases List.mem_cons.mp hd with rfl | hd
      · exact hc
      · exact dropWhile_nil h d hd
    · cases h
def gInt (n : Bool) (cs : List Nat) : Option Int := match digits? 10 (rst cs) with
  | some ds => if ds.size ≤ 4300 then some (NumText.worth n ds) else none
  | none => none
theorem rst_mem {l : List Nat} {d : Nat} (h : d ∈ rst l) : d ∈ l := by
  unfold rst at h
  rw [List.mem_reverse] at h
  exact List.mem_reverse.mp ((List.dropWhile_sublist blank).mem h)
theorem rst_dig {D : List Nat} (h : ∀ d ∈ D, isDg d = true) : rst D = D := by
  unfold rst
  rw [dropWhile_digits (fun d hd => isDg_iff.mp (h d (List.mem_reverse.mp hd))), List.reverse_reverse]
theorem gInt_eq {cs : List Nat} (n : Bool) (h : ∀ d ∈ cs, d ∈ sgs) (hl : cs.length ≤ 4300) : gInt n cs = (dB cs).map fun v => if n then -v else v := by
  have hsp : cs = cs.takeWhile isDg ++ cs.dropWhile isDg := (List.takeWhile_append_dropWhile).symm
  have hD : ∀ d ∈ cs.takeWhile isDg, isDg d = true := fun d hd => List.all_eq_true.mp List.all_takeWhile d hd
  cases hok : okD cs with
  | true =>
    have hbl : cs.dropWhile isDg = bl (cs.dropWhile isDg).length := by
      refine List.eq_replicate_iff.mpr ⟨rfl, fun d hd => ?_⟩
      have := List.all_eq_true.mp hok d hd
      simpa [isBl] using this
    have hr : rst cs = cs.takeWhile isDg := by
      conv => lhs; rw [hsp]
      rw [hbl, rst_bl, rst_dig hD]
    unfold gInt dB
    rw [hr, hok]
    cases hne : cs.takeWhile isDg with
    | nil => rfl
    | cons d D =>
      rw [← hne, digits_of (fun d hd => isDg_iff.mp (hD d hd)) (by rw [hne]; simp)]
      have hsz := push_size (cs.takeWhile isDg) #[]
      have hle := len_takeWhile isDg cs
      simp only
      rw [if_pos (by rw [hsz]; simp only [Array.size_empty]; omega), worth_eq n hD, hne]
      rfl
  | false =>
    rw [dB_okD hok]
    have : digits? 10 (rst cs) = none := by
      refine digits_bad (fun d hd => h d (rst_mem hd)) ?_
      have hnb : ∃ d ∈ cs.dropWhile isDg, isBl d = false := by
        unfold okD at hok
        obtain ⟨d, hd, hd2⟩ := List.all_eq_false.mp hok
        exact ⟨d, hd, by simpa using hd2⟩
      cases hz : cs.dropWhile isDg with
      | nil => rw [hz] at hnb; obtain ⟨d, hd, _⟩ := hnb; cases hd
      | cons e z =>
        have he : isDg e = false := by
          have := List.head?_dropWhile_not isDg cs
          rw [hz] at this; simpa using this
        have hne : ((e :: z).reverse.dropWhile blank) ≠ [] := by
          rw [← hz]
          intro hc
          obtain ⟨d, hd, hd2⟩ := hnb
          have := dropWhile_nil hc d (List.mem_reverse.mpr hd)
          rw [blank_sgs d (h d ((List.dropWhile_sublist isDg).mem hd)), hd2] at this
          cases this
        have hr : rst cs = cs.takeWhile isDg ++ rst (e :: z) := by
          conv => lhs; rw [hsp]
          rw [hz, rst_app hne]
        rw [hr]
        have hr2 : ∃ y, rst (e :: z) = e :: y := by
          by_cases hzz : z.reverse.dropWhile blank = []
          · refine ⟨[], ?_⟩
            have : (e :: z) = [e] ++ z := rfl
            unfold rst at hne ⊢
            rw [this, List.reverse_append, List.dropWhile_append, hzz] at hne ⊢
            simp only [List.isEmpty_nil, if_true] at hne ⊢
            cases hb : blank e with
            | true => simp [hb] at hne
            | false => simp [hb]
          · exact ⟨rst z, rst_app (x := [e]) hzz⟩
        obtain ⟨y, hy⟩ := hr2
        rw [hy]
        exact ⟨e, List.mem_append_right _ (.head _), he⟩
    unfold gInt
    rw [this]; rfl
theorem int_eq {l : List Nat} (h : ∀ d ∈ l, d ∈ sgs) (hl : l.length ≤ 600) : PySem.intText? (strL l) = iTL l := by
  have hc : (strL l).cps.toList = l := strL_cps l
  have e1 : numTextOf (strL l) = l := by
    have : (strL l).cps.all (· < 128) = true := by
      rw [← Array.all_toList, List.all_eq_true, hc]
      intro c hc'
      exact decide_eq_true (sgs_fit c (h c hc')).2
    show (if _ then _ else _) = _
    rw [if_pos this, hc]
  have e2 : numSeenOf (strL l) = l := by
    show (numTextOf (strL l)).takeWhile _ = _
    rw [e1]
    refine NumText.takeWhile_all fun c hc' => ?_
    have := (sgs_fit c (h c hc')).1
    simp only [bne_iff_ne, ne_eq]; omega
  have e3 : PySem.intText? (strL l) = gInt (sign (l.dropWhile blank)).1 (sign (l.dropWhile blank)).2 := by
    unfold PySem.intText? gInt
    rw [e1, e2, if_pos (by simp)]
    rfl
  rw [e3]
  clear e1 e2 e3 hc
  induction l with
  | nil => rfl
  | cons d r ih =>
    have hr : ∀ d ∈ r, d ∈ sgs := fun e he => h e (.tail _ he)
    have hlr : r.length ≤ 600 := by simp at hl; omega
    rw [iTL.eq_def]
    simp only
    by_cases h32 : d = 32
    · rw [if_pos h32, ← ih hr hlr]
      subst h32
      have : (32 :: r).dropWhile blank = r.dropWhile blank := by rw [List.dropWhile_cons]; rfl
      rw [this]
    · have hnb : (d :: r).dropWhile blank = d :: r := by
        rw [List.dropWhile_cons, blank_sgs d (h d (.head _))]; simp [isBl, h32]
      rw [if_neg h32, hnb]
      by_cases h43 : d = 43
      · subst h43
        rw [if_pos rfl]
        show gInt false r = _
        rw [gInt_eq false hr (by omega)]; simp
      · rw [if_neg h43]
        by_cases h45 : d = 45
        · subst h45
          rw [if_pos rfl]
          show gInt true r = _
          rw [gInt_eq true hr (by omega)]; simp
        · rw [if_neg h45, sign_of h45 h43]
          show gInt false (d :: r) = _
          rw [gInt_eq false h (by omega)]; simp
end Mine

namespace Mine
/-! ## the ints of the text's ends -/
def sufW : List Nat → List Nat → List Int
  | [], _ => []
  | d :: r, y => (iTL (d :: (r ++ y))).toList ++ sufW r y
theorem sufW_app : ∀ (x1 x2 y : List Nat), sufW (x1 ++ x2) y = sufW x1 (x2 ++ y) ++ sufW x2 y
  | [], x2, y => rfl
  | d :: x1, x2, y => by
    show (iTL (d :: ((x1 ++ x2) ++ y))).toList ++ sufW (x1 ++ x2) y = ((iTL (d :: (x1 ++ (x2 ++ y)))).toList ++ sufW x1 (x2 ++ y)) ++ sufW x2 y
    rw [sufW_app x1 x2 y, List.append_assoc, List.append_assoc]
theorem sufW_bad {y : List Nat} (h : Bad y) : ∀ x, sufW x y = []
  | [] => rfl
  | d :: x => by
    show (iTL (d :: (x ++ y))).toList ++ sufW x y = []
    rw [((h.app x).cons d).i, sufW_bad h x]; rfl
theorem sufW_bl (c : Nat) (y : List Nat) : sufW (bl c) y = match iTL y with | some v => List.replicate c v | none => [] := by
  induction c with
  | zero => cases iTL y <;> rfl
  | succ c ih =>
    show (iTL (32 :: (bl c ++ y))).toList ++ sufW (bl c) y = _
    have e : iTL (32 :: (bl c ++ y)) = iTL y := iTL_bl (c + 1) y
    rw [e, ih]
    cases iTL y <;> rfl
def sufD : List Nat → List Int
  | [] => []
  | d :: r => worthL (d :: r) :: sufD r
theorem sufW_dig (b : Nat) : ∀ D : List Nat, (∀ d ∈ D, isDg d = true) → sufW D (bl b) = sufD D
  | [], _ => rfl
  | d :: D, h => by
    show (iTL ((d :: D) ++ bl b)).toList ++ sufW D (bl b) = worthL (d :: D) :: sufD D
    rw [iTL_good b h (by simp), sufW_dig b D fun e he => h e (.tail _ he)]; rfl
theorem sufD_map : ∀ (D u : List Nat), (List.range' u.length D.length).map (fun i => worthL ((u ++ D).drop i)) = sufD D
  | [], u => rfl
  | d :: D, u => by
    have ih := sufD_map D (u ++ [d])
    rw [List.length_append, List.append_assoc] at ih
    show worthL ((u ++ d :: D).drop u.length) :: (List.range' (u.length + 1) D.length).map _ = _
    rw [List.drop_left]
    show _ = worthL (d :: D) :: sufD D
    rw [← ih]; rfl
theorem cut_app (u D w : List Nat) (i : Nat) : cutL (u ++ D ++ w) i (u.length + D.length) = (u ++ D).drop i := by
  unfold cutL
  rw [List.take_append_of_le_length (by simp), ← List.length_append, List.take_length]
theorem lsOf_eq (u D w : List Nat) : lsOf (u ++ D ++ w) ⟨2, u.length, u.length + D.length⟩ = sufD D := by
  unfold lsOf
  simp only [Nat.add_sub_cancel_left]
  rw [← sufD_map D u]
  refine List.map_congr_left fun i _ => ?_
  rw [cut_app]
/-! ## what stands ahead -/
def NoDigEnd (u : List Nat) : Prop := ∀ x d, u = x ++ [d] → isDg d = false
inductive Cov : List Tk → List Nat → Prop
  | base (b : Nat) : Cov [⟨0, 0, 0⟩] (bl b)
  | num {ra : List Tk} {u D : List Nat} (b : Nat) : Cov ra u → NoDigEnd u → D ≠ [] → (∀ d ∈ D, isDg d = true) → Cov (⟨2, u.length, u.length + D.length⟩ :: ra) (u ++ D ++ bl b)
  | sgn {ra : List Tk} {u : List Nat} {d : Nat} (b : Nat) : Cov ra u → isDg d = false → d ≠ 32 → Cov (⟨knd d, u.length, u.length + 1⟩ :: ra) (u ++ [d] ++ bl b)
theorem knd_ne2 (d : Nat) : knd d ≠ 2 := by unfold knd; repeat' split
                                            all_goals decide
theorem knd_ne0 (d : Nat) : knd d ≠ 0 := by unfold knd; repeat' split
                                            all_goals decide
theorem knd14 {d : Nat} : knd d = 14 ↔ d = 43 := by unfold knd; repeat' split
                                                    all_goals first | simp_all | omega
theorem knd15 {d : Nat} : knd d = 15 ↔ d = 45 := by unfold knd; repeat' split
                                                    all_goals first | simp_all | omega
theorem knd23 {d : Nat} (h : d ∈ sgs) (h1 : isDg d = false) : knd d = 23 ↔ d = 46 := by revert h h1; revert d; decide
structure Tail (ra : List Tk) (u : List Nat) (t : Tk) (r : List Tk) (y : List Nat) (c : Nat) : Prop where
  ra : ra = t :: r
  u : u = y ++ bl c
  e : t.e = y.length
  k : (y = [] ∧ t.k = 0) ∨ ∃ y' e, y = y' ++ [e] ∧ e ≠ 32 ∧ (e = 43 → t.k = 14) ∧ (e = 45 → t.k = 15) ∧ (t.k = 14 ∨ t.k = 15 → (e = 43 ∧ t.k = 14 ∨ e = 45 ∧ t.k = 15) ∧ t.a = y'.length ∧ Cov r y')
theorem Cov.tail {ra : List Tk} {u : List Nat} (x : Cov ra u) : ∃ t r y c, Tail ra u t r y c := by
  cases x with
  | base b => exact ⟨_, _, [], b, rfl, rfl, rfl, .inl ⟨rfl, rfl⟩⟩
  | @num ra u D b h1 h2 h3 h4 =>
    refine ⟨_, _, u ++ D, b, rfl, rfl, by simp, .inr ?_⟩
    have hD : D = D.dropLast ++ [D.getLast h3] := (List.dropLast_concat_getLast h3).symm
    have hg := isDg_iff.mp (h4 _ (List.getLast_mem h3))
    have := hg.1; have := hg.2
    refine ⟨u ++ D.dropLast, D.getLast h3, by rw [List.append_assoc, ← hD], by omega, fun h => by omega, fun h => by omega, fun h => ?_⟩
    rcases h with h | h <;> cases h
  | @sgn ra u d b h1 h2 h3 =>
    refine ⟨_, _, u ++ [d], b, rfl, rfl, by simp, .inr ⟨u, d, rfl, h3, fun h => knd14.mpr h, fun h => knd15.mpr h, fun h => ⟨?_, rfl, h1⟩⟩⟩
    rcases h with h | h
    · exact .inl ⟨knd14.mp h, h⟩
    · exact .inr ⟨knd15.mp h, h⟩
theorem okD_bl {c : Nat} {e : Nat} {z : List Nat} (he : e ≠ 32) (h : 0 < c ∨ isDg e = false) : okD (bl c ++ e :: z) = false := by
  cases c with
  | zero =>
    show okD (e :: z) = false
    rw [okD_nondig (h.resolve_left (by omega))]; simp [isBl, he]
  | succ c =>
    show okD (32 :: (bl c ++ e :: z)) = false
    rw [okD_nondig rfl]; simp [isBl, he]
theorem dB_blc {c : Nat} {e : Nat} {z : List Nat} (h : 0 < c ∨ isDg e = false) : dB (bl c ++ e :: z) = none := by
  cases c with
  | zero => exact dB_nondig (h.resolve_left (by omega))
  | succ c => exact dB_nondig (e := 32) rfl
theorem sufW_snoc_bad {y' : List Nat} {e : Nat} {w : List Nat} (h : Bad (e :: w)) : sufW (y' ++ [e]) w = [] := by
  rw [sufW_app, sufW_bad (y := [e] ++ w) h]
  show [] ++ ((iTL (e :: ([] ++ w))).toList ++ []) = []
  rw [List.nil_append, List.nil_append, h.i]; rfl
theorem marked_iff {t2 t1 : Tk} : marked t2 t1 = true ↔ (t2.k = 14 ∨ t2.k = 15) ∧ t2.e = t1.a := by
  unfold marked; simp [Bool.and_eq_true]
theorem sufD_head {D : List Nat} (h : D ≠ []) : (sufD D).headD 0 = worthL D := by
  cases D with
  | nil => exact absurd rfl h
  | cons d D => rfl
theorem lines_eq {ra : List Tk} {u : List Nat} (x : Cov ra u) (w : List Nat) : linesR (u ++ w) ra = sufW u [] := by
  cases x with
  | base b =>
    have : sufW (bl b) [] = [] := by rw [sufW_bl]; rfl
    rw [this]; rfl
  | @sgn ra u d b h1 h2 h3 =>
    have hb : Bad (d :: bl b) := .head h3 (fun h => by rw [h2] at h; cases h) (fun _ => dB_bl b)
    have e1 : sufW (u ++ [d] ++ bl b) [] = [] := by
      rw [sufW_app, List.append_nil, sufW_snoc_bad hb, sufW_bl]; rfl
    rw [e1]
    unfold linesR
    simp only [if_neg (knd_ne2 d)]
  | @num ra u D b h1 h2 h3 h4 =>
    obtain ⟨t2, r2, y, c, ht⟩ := h1.tail
    have hls := lsOf_eq u D (bl b ++ w)
    rw [← List.append_assoc] at hls
    have hw : iTL (D ++ bl b) = some (worthL D) := iTL_good b h4 h3
    obtain ⟨d0, D0, hD0⟩ := List.exists_cons_of_ne_nil h3
    have hd0 : d0 ≠ 32 := by have := isDg_iff.mp (h4 d0 (by rw [hD0]; exact .head _)); have := this.1; omega
    have e1 : sufW (u ++ D ++ bl b) [] = sufW u (D ++ bl b) ++ sufD D := by
      rw [sufW_app, List.append_nil, sufW_app, sufW_dig b D h4, sufW_bl]
      show _ ++ [] = _
      rw [List.append_nil]
    rw [e1]
    unfold linesR
    rw [ht.ra]
    simp only [if_true, hls, sufD_head h3]
    cases hm : marked t2 ⟨2, u.length, u.length + D.length⟩ with
    | true =>
      obtain ⟨hk, he⟩ := marked_iff.mp hm
      rcases ht.k with ⟨_, h0⟩ | ⟨y', e, hy, he32, _, _, hc⟩
      · rcases hk with hk | hk <;> (rw [h0] at hk; cases hk)
      · obtain ⟨hek, hta, hcov⟩ := hc hk
        have hc0 : c = 0 := by
          have h5 := ht.e
          have h6 := congrArg List.length ht.u
          simp only [List.length_append, List.length_replicate] at h6
          simp only at he
          omega
        obtain ⟨t3, r3, y3, c3, ht3⟩ := hcov.tail
        rw [ht3.ra]
        simp only [if_true]
        have hu : u = y' ++ [e] := by rw [ht.u, hc0, hy]; simp
        have h7 := congrArg List.length ht3.u
        simp only [List.length_append, List.length_replicate] at h7
        have hcnt : 1 + t2.a - t3.e = 1 + c3 := by rw [hta, ht3.e, h7]; omega
        rw [hcnt]
        have hv : iTL (e :: (D ++ bl b)) = some (if t2.k = 14 then worthL D else -worthL D) := by
          rcases hek with ⟨rfl, hk⟩ | ⟨rfl, hk⟩
          · rw [iTL_plus, dB_good b h4 h3, if_pos hk]
          · rw [iTL_minus, dB_good b h4 h3, if_neg (by rw [hk]; decide)]; rfl
        have hse : e = 43 ∨ e = 45 := by rcases hek with h | h; exact .inl h.1; exact .inr h.1
        have hy3 : sufW y3 (bl c3 ++ e :: (D ++ bl b)) = [] := by
          rcases ht3.k with ⟨h0, _⟩ | ⟨z, f, hz, hf, _⟩
          · rw [h0]; rfl
          · rw [hz]
            have hen : isDg e = false := by rcases hse with rfl | rfl <;> rfl
            exact sufW_snoc_bad (.head hf (fun _ => okD_bl he32 (.inr hen)) (fun _ => dB_blc (.inr hen)))
        have e2 : sufW u (D ++ bl b) = List.replicate (1 + c3) (if t2.k = 14 then worthL D else -worthL D) := by
          rw [hu, sufW_app, ht3.u, sufW_app]
          show sufW y3 (bl c3 ++ e :: (D ++ bl b)) ++ sufW (bl c3) (e :: (D ++ bl b)) ++ ((iTL (e :: (D ++ bl b))).toList ++ []) = _
          rw [hy3, sufW_bl, hv]
          show List.replicate c3 _ ++ [_] = _
          rw [Nat.add_comm, List.replicate_succ']
        rw [e2]
    | false =>
      simp only [Bool.false_eq_true, if_false]
      have h6 := congrArg List.length ht.u
      simp only [List.length_append, List.length_replicate] at h6
      have hcnt : u.length - t2.e = c := by rw [ht.e, h6]; omega
      rw [hcnt]
      have hy0 : sufW y (bl c ++ (D ++ bl b)) = [] := by
        rcases ht.k with ⟨h0, _⟩ | ⟨z, f, hz, hf, hp, hmn, _⟩
        · rw [h0]; rfl
        · rw [hz, hD0]
          have hc0 : c = 0 → u = z ++ [f] := fun h => by rw [ht.u, h, hz]; simp
          refine sufW_snoc_bad (.head hf (fun hdf => okD_bl hd0 (.inl ?_)) (fun hs => dB_blc (.inl ?_)))
          · cases c with
            | zero => have := h2 z f (hc0 rfl); rw [hdf] at this; cases this
            | succ c => omega
          · cases c with
            | zero =>
              exfalso
              have hmk : marked t2 ⟨2, u.length, u.length + D.length⟩ = true := by
                refine marked_iff.mpr ⟨?_, ?_⟩
                · rcases hs with h | h
                  · exact .inl (hp h)
                  · exact .inr (hmn h)
                · show t2.e = u.length
                  rw [ht.e, h6]; rfl
              rw [hm] at hmk; cases hmk
            | succ c => omega
      rw [ht.u, sufW_app, hy0, sufW_bl, hw]; rfl
theorem okR_of {ra : List Tk} {u : List Nat} (x : Cov ra u) (w : List Nat) : OkR (u ++ w) ra := by
  cases x with
  | base b => intro h; cases h
  | @sgn ra u d b h1 h2 h3 => intro h; exact absurd h (knd_ne2 d)
  | @num ra u D b h1 h2 h3 h4 =>
    intro _
    have hpos : 0 < D.length := List.length_pos_iff.mpr h3
    refine ⟨⟨by show u.length < u.length + D.length; omega, by show u.length + D.length ≤ _; simp, fun d hd => ?_⟩, ?_⟩
    · simp only at hd
      rw [List.append_assoc (u ++ D), cut_app, List.drop_left] at hd
      exact isDg_iff.mp (h4 d hd)
    · obtain ⟨t2, r2, y, c, ht⟩ := h1.tail
      rw [ht.ra]
      intro hm
      obtain ⟨hk, _⟩ := marked_iff.mp hm
      rcases ht.k with ⟨_, h0⟩ | ⟨y', e, _, _, _, _, hc⟩
      · rcases hk with hk | hk <;> (rw [h0] at hk; cases hk)
      · obtain ⟨_, _, hcov⟩ := hc hk
        obtain ⟨t3, r3, y3, c3, ht3⟩ := hcov.tail
        rw [ht3.ra]; simp
end Mine

namespace Mine
/-! ## the ints of the text's beginnings -/
def preW : List Nat → List Nat → List Int
  | _, [] => []
  | x, d :: r => (iTL (x ++ [d])).toList ++ preW (x ++ [d]) r
theorem preW_app : ∀ (y1 x y2 : List Nat), preW x (y1 ++ y2) = preW x y1 ++ preW (x ++ y1) y2
  | [], x, y2 => by rw [List.append_nil]; rfl
  | d :: y1, x, y2 => by
    show (iTL (x ++ [d])).toList ++ preW (x ++ [d]) (y1 ++ y2) = ((iTL (x ++ [d])).toList ++ preW (x ++ [d]) y1) ++ _
    rw [preW_app y1 (x ++ [d]) y2, List.append_assoc, List.append_assoc]; rfl
theorem preW_none : ∀ (y x : List Nat), (∀ z z', y = z ++ z' → z ≠ [] → iTL (x ++ z) = none) → preW x y = []
  | [], x, _ => rfl
  | d :: r, x, h => by
    show (iTL (x ++ [d])).toList ++ preW (x ++ [d]) r = []
    rw [h [d] r rfl (by simp), preW_none r (x ++ [d]) fun z z' e hz => by rw [List.append_assoc]; exact h (d :: z) z' (by rw [e]; rfl) (by simp)]; rfl
theorem preW_bl (b : Nat) : ∀ (y x : List Nat), preW (bl b ++ x) y = preW x y
  | [], x => rfl
  | d :: r, x => by
    show (iTL (bl b ++ x ++ [d])).toList ++ preW (bl b ++ x ++ [d]) r = (iTL (x ++ [d])).toList ++ preW (x ++ [d]) r
    rw [List.append_assoc, iTL_bl, preW_bl b r (x ++ [d])]
/-- signs ahead of figures -/
def sgnv (sx : List Nat) (sd : Int) : Prop := (sx = [] ∧ sd = 1) ∨ (sx = [43] ∧ sd = 1) ∨ (sx = [45] ∧ sd = -1)
theorem sgnv_val {sx : List Nat} {sd : Int} (h : sgnv sx sd) {D : List Nat} (b : Nat) (hD : ∀ d ∈ D, isDg d = true) (hne : D ≠ []) : iTL (sx ++ (D ++ bl b)) = some (sd * worthL D) := by
  rcases h with ⟨rfl, rfl⟩ | ⟨rfl, rfl⟩ | ⟨rfl, rfl⟩
  · rw [List.nil_append, iTL_good b hD hne, Int.one_mul]
  · show iTL (43 :: (D ++ bl b)) = _
    rw [iTL_plus, dB_good b hD hne, Int.one_mul]
  · show iTL (45 :: (D ++ bl b)) = _
    rw [iTL_minus, dB_good b hD hne]
    show some (-worthL D) = some (-1 * worthL D)
    congr 1; omega
def csP (sd : Int) : List Nat → List Nat → List Int
  | _, [] => []
  | p, d :: r => (sd * worthL (p ++ [d])) :: csP sd (p ++ [d]) r
theorem preW_dig {sx : List Nat} {sd : Int} (h : sgnv sx sd) : ∀ (D p : List Nat), (∀ d ∈ p, isDg d = true) → (∀ d ∈ D, isDg d = true) → preW (sx ++ p) D = csP sd p D
  | [], p, _, _ => rfl
  | d :: D, p, hp, hD => by
    have hpd : ∀ e ∈ p ++ [d], isDg e = true := fun e he => by
      rcases List.mem_append.mp he with he | he
      · exact hp e he
      · rw [List.mem_singleton] at he; rw [he]; exact hD d (.head _)
    have h1 := sgnv_val h 0 hpd (by simp)
    have e0 : bl 0 = [] := rfl
    rw [e0, List.append_nil] at h1
    show (iTL (sx ++ p ++ [d])).toList ++ preW (sx ++ p ++ [d]) D = _
    rw [List.append_assoc, h1, preW_dig h D (p ++ [d]) hpd fun e he => hD e (.tail _ he)]; rfl
theorem csP_map (sd : Int) (u w : List Nat) : ∀ (D p : List Nat), (List.range' (u.length + p.length + 1) D.length).map (fun j => sd * worthL (cutL (u ++ (p ++ D) ++ w) u.length j)) = csP sd p D
  | [], p => rfl
  | d :: D, p => by
    have ih := csP_map sd u w D (p ++ [d])
    rw [List.append_assoc p] at ih
    show (sd * worthL (cutL (u ++ (p ++ d :: D) ++ w) u.length (u.length + p.length + 1))) :: (List.range' (u.length + p.length + 1 + 1) D.length).map _ = (sd * worthL (p ++ [d])) :: csP sd (p ++ [d]) D
    have e1 : cutL (u ++ (p ++ d :: D) ++ w) u.length (u.length + p.length + 1) = p ++ [d] := by
      unfold cutL
      rw [show u ++ (p ++ d :: D) ++ w = (u ++ (p ++ [d])) ++ (D ++ w) by simp, List.take_append_of_le_length (by simp; omega), List.take_of_length_le (by simp; omega), List.drop_left]
    rw [e1, ← ih]
    simp only [List.length_append, List.length_cons, List.length_nil]
    rfl
theorem csOf_eq (sd : Int) (u D w : List Nat) : csOf (u ++ D ++ w) sd ⟨2, u.length, u.length + D.length⟩ = csP sd [] D := by
  unfold csOf
  simp only [Nat.add_sub_cancel_left]
  exact csP_map sd u w D []
theorem csP_last (sd : Int) : ∀ (D p : List Nat), D ≠ [] → (csP sd p D).getLastD 0 = sd * worthL (p ++ D)
  | [], p, h => absurd rfl h
  | [d], p, _ => rfl
  | d :: d' :: D, p, _ => by
    have ih := csP_last sd (d' :: D) (p ++ [d]) (by simp)
    rw [List.append_assoc] at ih
    rw [show p ++ d :: d' :: D = p ++ ([d] ++ d' :: D) from rfl, ← ih]
    show (_ :: csP sd (p ++ [d]) (d' :: D)).getLastD 0 = _
    cases h : csP sd (p ++ [d]) (d' :: D) with
    | nil => cases h
    | cons a r => rfl
theorem preW_tail {sx : List Nat} {sd : Int} (h : sgnv sx sd) {D : List Nat} (hD : ∀ d ∈ D, isDg d = true) (hne : D ≠ []) : ∀ b c, preW (sx ++ D ++ bl c) (bl b) = List.replicate b (sd * worthL D)
  | 0, c => rfl
  | b + 1, c => by
    show (iTL (sx ++ D ++ bl c ++ [32])).toList ++ preW (sx ++ D ++ bl c ++ [32]) (bl b) = _
    have e : sx ++ D ++ bl c ++ [32] = sx ++ D ++ bl (c + 1) := by
      rw [List.append_assoc]
      congr 1
      exact (List.replicate_succ').symm
    rw [e, preW_tail h hD hne b (c + 1), List.append_assoc, sgnv_val h (c + 1) hD hne]; rfl
/-- dead: a sign behind the figures and blanks -/
theorem dead {sx : List Nat} {sd : Int} (h : sgnv sx sd) {D : List Nat} {c e : Nat} {z : List Nat} (hD : ∀ d ∈ D, isDg d = true) (hne : D ≠ []) (he : e ≠ 32) (hc : c = 0 → isDg e = false) : iTL (sx ++ (D ++ (bl c ++ e :: z))) = none := by
  have hok : okD (D ++ (bl c ++ e :: z)) = false := by
    unfold okD
    rw [(take_digs hD fun f r q => ?_).2]
    · simp [isBl, he]
    · cases c with
      | zero => cases q; exact hc rfl
      | succ c => cases q; rfl
  have hd := dB_okD hok
  obtain ⟨d0, D0, hD0⟩ := List.exists_cons_of_ne_nil hne
  rcases h with ⟨rfl, _⟩ | ⟨rfl, _⟩ | ⟨rfl, _⟩
  · have := isDg_iff.mp (hD d0 (by rw [hD0]; exact .head _))
    have h1 := this.1; have h2 := this.2
    rw [List.nil_append, ← hd, hD0]
    exact iTL_nosgn (by omega) (by omega) (by omega)
  · exact hd
  · show (dB (D ++ (bl c ++ e :: z))).map _ = none; rw [hd]; rfl
/-- r does not go on with a blank, and with no figure if b = 0 -/
def Stop (b : Nat) (r : List Nat) : Prop := ∀ e z, r = e :: z → e ≠ 32 ∧ (b = 0 → isDg e = false)
theorem preW_main {sx : List Nat} {sd : Int} (h : sgnv sx sd) {D : List Nat} {b : Nat} {r : List Nat} (hD : ∀ d ∈ D, isDg d = true) (hne : D ≠ []) (hr : Stop b r) :
    preW sx (D ++ bl b ++ r) = csP sd [] D ++ List.replicate b (sd * worthL D) := by
  have h1 := preW_dig h D [] (by simp) hD
  rw [List.append_nil] at h1
  have h2 := preW_tail h hD hne b 0
  rw [show bl 0 = [] from rfl, List.append_nil] at h2
  have h3 : preW (sx ++ (D ++ bl b)) r = [] := by
    refine preW_none r _ fun z z' e hz => ?_
    cases z with
    | nil => exact absurd rfl hz
    | cons f z =>
      obtain ⟨hf1, hf2⟩ := hr f (z ++ z') e
      rw [List.append_assoc, List.append_assoc]
      exact dead h hD hne hf1 hf2
  rw [preW_app, preW_app, h1, h2, h3, List.append_nil]
/-! ## tokens behind -/
theorem toksS_bl : ∀ (b at_ : Nat) (v : List Nat), toksS at_ (bl b ++ v) = toksS (at_ + b) v
  | 0, at_, v => rfl
  | b + 1, at_, v => by
    show toksS at_ (32 :: (bl b ++ v)) = _
    rw [toksS.eq_def]
    simp only [dig32, Bool.false_eq_true, if_false, if_true]
    rw [toksS_bl b (at_ + 1) v, show at_ + 1 + b = at_ + (b + 1) by omega]
theorem toksS_sgn {at_ d : Nat} {r : List Nat} (h : isDg d = false) (h2 : d ≠ 32) : toksS at_ (d :: r) = ⟨knd d, at_, at_ + 1⟩ :: toksS (at_ + 1) r := by
  rw [toksS.eq_def]
  simp only [h, if_neg h2, Bool.false_eq_true, if_false]
theorem toksS_num {at_ : Nat} {D r : List Nat} (hD : ∀ d ∈ D, isDg d = true) (hne : D ≠ []) (hr : ∀ e z, r = e :: z → isDg e = false) : toksS at_ (D ++ r) = ⟨2, at_, at_ + D.length⟩ :: toksS (at_ + D.length) r := by
  obtain ⟨d, D', rfl⟩ := List.exists_cons_of_ne_nil hne
  have hD' : ∀ d ∈ D', isDg d = true := fun e he => hD e (.tail _ he)
  obtain ⟨h1, h2⟩ := take_digs (z := r) hD' hr
  show toksS at_ (d :: (D' ++ r)) = _
  rw [toksS.eq_def]
  simp only [hD d (.head _), if_true]
  rw [h1, List.drop_left, List.length_cons, show at_ + 1 + D'.length = at_ + (D'.length + 1) by omega]
/-- every text is blanks and then nothing, a sign, or figures -/
theorem split_bl (v : List Nat) : ∃ b v1, v = bl b ++ v1 ∧ ∀ e z, v1 = e :: z → e ≠ 32 := by
  induction v with
  | nil => exact ⟨0, [], rfl, fun e z h => by cases h⟩
  | cons d r ih =>
    by_cases h : d = 32
    · obtain ⟨b, v1, h1, h2⟩ := ih
      exact ⟨b + 1, v1, by rw [h, h1]; rfl, h2⟩
    · exact ⟨0, d :: r, rfl, fun e z q => by cases q; exact h⟩
theorem split_dig (v : List Nat) : ∃ D r, v = D ++ r ∧ (∀ d ∈ D, isDg d = true) ∧ ∀ e z, r = e :: z → isDg e = false := by
  induction v with
  | nil => exact ⟨[], [], rfl, fun d h => by (cases h), fun e z h => by (cases h)⟩
  | cons d r ih =>
    cases h : isDg d with
    | true =>
      obtain ⟨D, r1, h1, h2, h3⟩ := ih
      refine ⟨d :: D, r1, by rw [h1]; rfl, fun e he => ?_, h3⟩
      rcases List.mem_cons.mp he with rfl | he
      · exact h
      · exact h2 e he
    | false => exact ⟨[], d :: r, rfl, fun d h => by (cases h), fun e z q => by cases q; exact h⟩
/-- the token that comes next begins behind the blanks -/
theorem next_tok (at_ b n : Nat) (r : List Nat) (hr : ∀ e z, r = e :: z → e ≠ 32) (hn : n = at_ + b + r.length) : ∃ tf q, toksS at_ (bl b ++ r) ++ [⟨0, n, n⟩] = tf :: q ∧ tf.a = at_ + b ∧ (∀ e z, r = e :: z → isDg e = false → tf.k = knd e) ∧ (r = [] → tf.k = 0 ∧ q = []) := by
  rw [toksS_bl]
  cases r with
  | nil => exact ⟨_, _, by rw [toksS.eq_def]; rfl, by simp [hn], fun e z h => by (cases h), fun _ => ⟨rfl, rfl⟩⟩
  | cons e z =>
    have h32 := hr e z rfl
    cases hd : isDg e with
    | true =>
      refine ⟨⟨2, at_ + b, at_ + b + 1 + (z.takeWhile isDg).length⟩, toksS (at_ + b + 1 + (z.takeWhile isDg).length) (z.drop (z.takeWhile isDg).length) ++ [⟨0, n, n⟩], ?_, rfl, fun e' z' q h => ?_, fun h => by (cases h)⟩
      · rw [toksS.eq_def]; simp only [hd, if_true]; rfl
      · cases q; rw [hd] at h; cases h
    | false =>
      refine ⟨_, _, by rw [toksS_sgn hd h32]; rfl, rfl, fun e' z' q h => ?_, fun h => by (cases h)⟩
      cases q; rfl
theorem isMk_knd {d a e : Nat} : isMk ⟨knd d, a, e⟩ = true ↔ d = 43 ∨ d = 45 := by
  unfold isMk
  simp only [Bool.or_eq_true, beq_iff_eq, knd14, knd15]
theorem colsR_no {l : List Nat} {t1 : Tk} {r : List Tk} (h : ∀ tn q, numR t1 r = tn :: q → tn.k ≠ 2) : colsR l (t1 :: r) = [] := by
  unfold colsR
  simp only
  split
  · rename_i tn tf q heq
    rw [if_neg (h tn _ heq)]
  · rfl
theorem okF_no {l : List Nat} {t1 : Tk} {r : List Tk} (h0 : isMk t1 = true → r ≠ []) (h : ∀ tn q, numR t1 r = tn :: q → tn.k ≠ 2) : OkF l (t1 :: r) := by
  refine ⟨h0, ?_⟩
  cases hn : numR t1 r with
  | nil =>
    unfold numR at hn
    split at hn
    · rename_i hm
      unfold mkB at hm
      rw [hn] at hm; simp at hm
    · cases hn
  | cons tn q => intro hk; exact absurd hk (h tn q hn)
theorem okF_yes {l : List Nat} {t1 tn tf : Tk} {r q : List Tk} (h0 : isMk t1 = true → r ≠ []) (h : numR t1 r = tn :: tf :: q) (hn : NumTk l tn) : OkF l (t1 :: r) := by
  refine ⟨h0, ?_⟩
  rw [h]
  exact fun _ => ⟨hn, by simp⟩
theorem numTk_of (u D w : List Nat) (hD : ∀ d ∈ D, isDg d = true) (hne : D ≠ []) : NumTk (u ++ D ++ w) ⟨2, u.length, u.length + D.length⟩ := by
  have hpos : 0 < D.length := List.length_pos_iff.mpr hne
  refine ⟨by show u.length < u.length + D.length; omega, by show u.length + D.length ≤ _; simp, fun d hd => ?_⟩
  simp only at hd
  rw [cut_app, List.drop_left] at hd
  exact isDg_iff.mp (hD d hd)
theorem cols_main {l : List Nat} {t1 : Tk} {r : List Tk} {u D : List Nat} {b : Nat} {r2 : List Nat} {tf : Tk} {q : List Tk} {sx : List Nat} (hl : l = u ++ D ++ (bl b ++ r2)) (hD : ∀ d ∈ D, isDg d = true) (hne : D ≠ []) (hst : Stop b r2)
    (hn : numR t1 r = ⟨2, u.length, u.length + D.length⟩ :: tf :: q) (hf : tf.a = u.length + D.length + b) (hsd : sgnv sx (sideOf t1 r)) : colsR l (t1 :: r) = preW sx (D ++ bl b ++ r2) := by
  unfold colsR
  simp only [hn, if_true]
  rw [hl, csOf_eq, csP_last _ D [] hne, hf, preW_main hsd hD hne hst, show u.length + D.length + b - (u.length + D.length) = b by omega]; rfl
theorem cols_eq (w v : List Nat) (n : Nat) (hn : n = w.length + v.length) : colsR (w ++ v) (toksS w.length v ++ [⟨0, n, n⟩]) = preW [] v ∧ OkF (w ++ v) (toksS w.length v ++ [⟨0, n, n⟩]) := by
  obtain ⟨b, v1, rfl, hv1⟩ := split_bl v
  have hp : preW [] (bl b ++ v1) = preW [] v1 := by
    have h1 : preW [] (bl b) = [] := preW_none _ _ fun z z' e hz => by
      have : z = bl z.length := List.eq_replicate_iff.mpr ⟨rfl, fun d hd => (List.mem_replicate.mp (show d ∈ bl b by rw [e]; exact List.mem_append_left _ hd)).2⟩
      rw [List.nil_append, this]; exact iTL_blank _
    have h2 := preW_bl b v1 []
    rw [List.append_nil] at h2
    rw [preW_app, h1, List.nil_append, List.nil_append, h2]
  rw [hp, toksS_bl]
  have hlb : (w ++ bl b).length = w.length + b := by simp
  cases v1 with
  | nil =>
    have ht : toksS (w.length + b) [] ++ [(⟨0, n, n⟩ : Tk)] = [⟨0, n, n⟩] := by rw [toksS.eq_def]; rfl
    rw [ht]
    have hno : ∀ tn q, numR (⟨0, n, n⟩ : Tk) [] = tn :: q → tn.k ≠ 2 := fun tn q h => by cases h; show (0 : Int) ≠ 2; decide
    exact ⟨colsR_no hno, okF_no (fun h => by cases h) hno⟩
  | cons e z =>
    have h32 := hv1 e z rfl
    have hnl : n = w.length + b + 1 + z.length := by rw [hn]; simp; omega
    cases hd : isDg e with
    | true =>
      obtain ⟨D, r, hDr, hD, hr⟩ := split_dig (e :: z)
      have hne : D ≠ [] := by rintro rfl; have := hr e z hDr.symm; rw [hd] at this; cases this
      obtain ⟨b2, r2, rfl, hr2⟩ := split_bl r
      have hst : Stop b2 r2 := fun f y hf => ⟨hr2 f y hf, fun hb => hr f y (by rw [hb, hf]; rfl)⟩
      rw [hDr, toksS_num hD hne hr]
      have hlen := congrArg List.length hDr
      simp only [List.length_append, List.length_cons, List.length_replicate] at hlen
      obtain ⟨tf, q, htf, hta, _, _⟩ := next_tok (w.length + b + D.length) b2 n r2 hr2 (by omega)
      rw [List.cons_append, htf]
      have hmk : mkB ⟨2, w.length + b, w.length + b + D.length⟩ (tf :: q) = false := rfl
      have hnr : numR ⟨2, w.length + b, w.length + b + D.length⟩ (tf :: q) = ⟨2, (w ++ bl b).length, (w ++ bl b).length + D.length⟩ :: tf :: q := by
        unfold numR; rw [hmk, hlb]; rfl
      have hl : w ++ (bl b ++ (D ++ (bl b2 ++ r2))) = (w ++ bl b) ++ D ++ (bl b2 ++ r2) := by simp
      refine ⟨?_, ?_⟩
      · rw [← List.append_assoc D]
        refine cols_main (by rw [List.append_assoc D]; exact hl) hD hne hst hnr (by rw [hta, hlb]) (.inl ⟨rfl, rfl⟩)
      · rw [hl]
        exact okF_yes (fun h => by cases h) hnr (numTk_of _ _ _ hD hne)
    | false =>
      rw [toksS_sgn hd h32, List.cons_append]
      obtain ⟨b1, z1, rfl, hz1⟩ := split_bl z
      have hzl : (bl b1 ++ z1).length = b1 + z1.length := by simp
      obtain ⟨t2, q, ht2, hta, htk, ht0⟩ := next_tok (w.length + b + 1) b1 n z1 hz1 (by rw [hnl, hzl]; omega)
      rw [ht2]
      by_cases hs : e = 43 ∨ e = 45
      · have hmk1 : isMk ⟨knd e, w.length + b, w.length + b + 1⟩ = true := isMk_knd.mpr hs
        have hiT : ∀ x, dB x = none → iTL (e :: x) = none := fun x hx => by
          rcases hs with rfl | rfl
          · exact hx
          · show (dB x).map _ = none; rw [hx]; rfl
        by_cases hb1 : b1 = 0
        · subst hb1
          have hmk : mkB ⟨knd e, w.length + b, w.length + b + 1⟩ (t2 :: q) = true := by
            unfold mkB; rw [hmk1]; simp [hta]
          have hnr : numR ⟨knd e, w.length + b, w.length + b + 1⟩ (t2 :: q) = t2 :: q := by unfold numR; rw [hmk]; rfl
          obtain ⟨D, r, hDr, hD, hr⟩ := split_dig z1
          by_cases hne : D = []
          · subst hne
            have hk2 : t2.k ≠ 2 := by
              cases z1 with
              | nil => rw [(ht0 rfl).1]; decide
              | cons f y => rw [htk f y rfl (hr f y hDr.symm)]; exact knd_ne2 f
            have hno : ∀ tn q', numR ⟨knd e, w.length + b, w.length + b + 1⟩ (t2 :: q) = tn :: q' → tn.k ≠ 2 := fun tn q' h => by rw [hnr] at h; cases h; exact hk2
            refine ⟨?_, okF_no (fun _ => by simp) hno⟩
            rw [colsR_no hno]
            refine (preW_none _ _ fun x x' hx hxn => ?_).symm
            cases x with
            | nil => exact absurd rfl hxn
            | cons e' x =>
              obtain ⟨rfl, hx2⟩ := List.cons.inj hx
              refine hiT x ?_
              cases x with
              | nil => rfl
              | cons f y => exact dB_nondig (hr f (y ++ x') (hDr.symm.trans hx2))
          · obtain ⟨b2, r2, rfl, hr2⟩ := split_bl r
            have hst : Stop b2 r2 := fun f y hf => ⟨hr2 f y hf, fun hb => hr f y (by rw [hb, hf]; rfl)⟩
            have hlen := congrArg List.length hDr
            simp only [List.length_append, List.length_replicate] at hlen
            have hnum := toksS_num (at_ := w.length + b + 1) hD hne hr
            rw [← hDr] at hnum
            have ht2' : toksS (w.length + b + 1) z1 ++ [(⟨0, n, n⟩ : Tk)] = t2 :: q := ht2
            obtain ⟨tf, q', htf, htfa, _, _⟩ := next_tok (w.length + b + 1 + D.length) b2 n r2 hr2 (by rw [hnl, hzl]; omega)
            rw [hnum, List.cons_append, htf] at ht2'
            obtain ⟨h2, h3⟩ := List.cons.inj ht2'
            have hlu : (w ++ bl b ++ [e]).length = w.length + b + 1 := by simp; omega
            have hnr' : numR ⟨knd e, w.length + b, w.length + b + 1⟩ (t2 :: q) = ⟨2, (w ++ bl b ++ [e]).length, (w ++ bl b ++ [e]).length + D.length⟩ :: tf :: q' := by
              rw [hnr, ← h2, ← h3, hlu]
            have hl : w ++ (bl b ++ e :: (bl 0 ++ z1)) = (w ++ bl b ++ [e]) ++ D ++ (bl b2 ++ r2) := by
              rw [hDr, show bl 0 = [] from rfl]
              simp only [List.append_assoc, List.nil_append, List.cons_append]
            have hsd : sgnv [e] (sideOf ⟨knd e, w.length + b, w.length + b + 1⟩ (t2 :: q)) := by
              unfold sideOf
              rw [hmk]
              rcases hs with rfl | rfl
              · exact .inr (.inl ⟨rfl, rfl⟩)
              · exact .inr (.inr ⟨rfl, rfl⟩)
            refine ⟨?_, by rw [hl]; exact okF_yes (fun _ => by simp) hnr' (numTk_of _ _ _ hD hne)⟩
            rw [cols_main hl hD hne hst hnr' (by rw [htfa, hlu]) hsd]
            show _ = (iTL [e]).toList ++ preW [e] z1
            rw [hiT [] rfl, hDr, List.append_assoc]; rfl
        · have hmk : mkB ⟨knd e, w.length + b, w.length + b + 1⟩ (t2 :: q) = false := by
            unfold mkB
            rw [hmk1]
            simp only [hta, Bool.true_and, beq_eq_false_iff_ne]
            omega
          have hno : ∀ tn q', numR ⟨knd e, w.length + b, w.length + b + 1⟩ (t2 :: q) = tn :: q' → tn.k ≠ 2 := fun tn q' h => by
            unfold numR at h; rw [hmk] at h; cases h; exact knd_ne2 e
          refine ⟨?_, okF_no (fun _ => by simp) hno⟩
          rw [colsR_no hno]
          refine (preW_none _ _ fun x x' hx hxn => ?_).symm
          cases x with
          | nil => exact absurd rfl hxn
          | cons e' x =>
            obtain ⟨rfl, hx2⟩ := List.cons.inj hx
            refine hiT x ?_
            cases x with
            | nil => rfl
            | cons f y =>
              obtain ⟨b3, rfl⟩ : ∃ b3, b1 = b3 + 1 := ⟨b1 - 1, by omega⟩
              have : f = 32 := (List.cons.inj hx2).1.symm
              rw [this]; exact dB_nondig rfl
      · have hmk1 : isMk ⟨knd e, w.length + b, w.length + b + 1⟩ = false := by
          cases h : isMk ⟨knd e, w.length + b, w.length + b + 1⟩ with
          | false => rfl
          | true => exact absurd (isMk_knd.mp h) hs
        have hmk : mkB ⟨knd e, w.length + b, w.length + b + 1⟩ (t2 :: q) = false := by unfold mkB; rw [hmk1]; rfl
        have hno : ∀ tn q', numR ⟨knd e, w.length + b, w.length + b + 1⟩ (t2 :: q) = tn :: q' → tn.k ≠ 2 := fun tn q' h => by
          unfold numR at h; rw [hmk] at h; cases h; exact knd_ne2 e
        refine ⟨?_, okF_no (fun _ => by simp) hno⟩
        rw [colsR_no hno]
        refine (preW_none _ _ fun x x' hx hxn => ?_).symm
        cases x with
        | nil => exact absurd rfl hxn
        | cons e' x =>
          obtain ⟨rfl, hx⟩ := List.cons.inj hx
          exact (iTL_nosgn h32 (fun h => hs (.inl h)) (fun h => hs (.inr h))).trans (dB_nondig hd)
end Mine

namespace Mine
/-! ## the points in turn -/
def plc : List Nat → List Nat → List (Int × Int)
  | _, [] => []
  | u, d :: r => (if d = 46 then pairsOf (sufW u []) (preW [] r) else []) ++ plc (u ++ [d]) r
theorem plc_skip : ∀ (s u r : List Nat), 46 ∉ s → plc u (s ++ r) = plc (u ++ s) r
  | [], u, r, _ => by rw [List.append_nil]; rfl
  | d :: s, u, r, h => by
    have h1 : d ≠ 46 := fun e => h (by rw [e]; exact .head _)
    show (if d = 46 then _ else []) ++ plc (u ++ [d]) (s ++ r) = _
    rw [if_neg h1, List.nil_append, plc_skip s (u ++ [d]) r fun q => h (.tail _ q), List.append_assoc]; rfl
theorem Cov.blank {ra : List Tk} {u : List Nat} (x : Cov ra u) : Cov ra (u ++ [32]) := by
  have e : ∀ b : Nat, bl b ++ [32] = bl (b + 1) := fun b => (List.replicate_succ').symm
  cases x with
  | base b => rw [e]; exact .base (b + 1)
  | num b h1 h2 h3 h4 => rw [List.append_assoc, e]; exact .num (b + 1) h1 h2 h3 h4
  | sgn b h1 h2 h3 => rw [List.append_assoc, e]; exact .sgn (b + 1) h1 h2 h3
structure Walked (l : List Nat) (ts : List Tk) (k : Nat) (v : List (Int × Int)) : Prop where
  pl : (List.range' k (ts.length - k)).flatMap (placeAt l ts) = v
  ok : ∀ j t, k ≤ j → ts[j]? = some t → t.k = 23 → OkR l (ts.take j).reverse ∧ OkF l (ts.drop (j + 1))
  bd : ∀ j t, k ≤ j → ts[j]? = some t → t.a ≤ l.length ∧ t.e ≤ l.length
theorem Walked.step {l : List Nat} {T R : List Tk} {t : Tk} {v v0 : List (Int × Int)} (x : Walked l (T ++ t :: R) (T.length + 1) v) (h0 : placeAt l (T ++ t :: R) T.length = v0)
    (hok : t.k = 23 → OkR l T.reverse ∧ OkF l R) (hbd : t.a ≤ l.length ∧ t.e ≤ l.length) : Walked l (T ++ t :: R) T.length (v0 ++ v) := by
  have hg : (T ++ t :: R)[T.length]? = some t := by simp
  refine ⟨?_, fun j t' hj ht hk => ?_, fun j t' hj ht => ?_⟩
  · have : (T ++ t :: R).length - T.length = ((T ++ t :: R).length - (T.length + 1)) + 1 := by simp; omega
    rw [this, List.range'_succ, List.flatMap_cons, h0, x.pl]
  · by_cases hj2 : j = T.length
    · subst hj2
      rw [hg] at ht; cases ht
      have e1 : (T ++ t :: R).take T.length = T := List.take_left
      have e2 : (T ++ t :: R).drop (T.length + 1) = R := by rw [← List.drop_drop, List.drop_left]; rfl
      rw [e1, e2]; exact hok hk
    · exact x.ok j t' (by omega) ht hk
  · by_cases hj2 : j = T.length
    · subst hj2
      rw [hg] at ht; cases ht; exact hbd
    · exact x.bd j t' (by omega) ht
theorem placeAt_no {l : List Nat} {T R : List Tk} {t : Tk} (h : t.k ≠ 23) : placeAt l (T ++ t :: R) T.length = [] := by
  have hg : (T ++ t :: R)[T.length]? = some t := by simp
  unfold placeAt
  rw [hg]
  simp only [if_neg h]
theorem placeAt_yes {l : List Nat} {T R : List Tk} {t : Tk} (h : t.k = 23) : placeAt l (T ++ t :: R) T.length = pairsOf (linesR l T.reverse) (colsR l R) := by
  have hg : (T ++ t :: R)[T.length]? = some t := by simp
  have e1 : (T ++ t :: R).take T.length = T := List.take_left
  have e2 : (T ++ t :: R).drop (T.length + 1) = R := by rw [← List.drop_drop, List.drop_left]; rfl
  unfold placeAt
  rw [hg, e1, e2]
  simp only [if_pos h]
theorem walked : ∀ (m : Nat) (v u : List Nat) (T : List Tk) (l : List Nat), v.length ≤ m → l = u ++ v → (∀ d ∈ v, d ∈ sgs) → Cov T.reverse u → (NoDigEnd u ∨ ∀ e z, v = e :: z → isDg e = false) →
    Walked l (T ++ (toksS u.length v ++ [⟨0, l.length, l.length⟩])) T.length (plc u v) := by
  intro m
  induction m with
  | zero =>
    intro v u T l hm hl hs hc hj
    obtain rfl : v = [] := List.length_eq_zero_iff.mp (by omega)
    have e : toksS u.length [] = [] := by rw [toksS.eq_def]
    rw [e, List.nil_append]
    have h0 : Walked l (T ++ [(⟨0, l.length, l.length⟩ : Tk)]) (T.length + 1) [] := by
      refine ⟨by simp, fun j t hj ht => ?_, fun j t hj ht => ?_⟩
      · have := (List.getElem?_eq_some_iff.mp ht).1; simp at this; omega
      · have := (List.getElem?_eq_some_iff.mp ht).1; simp at this; omega
    exact h0.step (v0 := []) (placeAt_no (by show (0 : Int) ≠ 23; decide)) (fun h => by cases h) ⟨Nat.le_refl _, Nat.le_refl _⟩
  | succ m ih =>
    intro v u T l hm hl hs hc hj
    cases v with
    | nil => exact ih [] u T l (by simp) hl hs hc hj
    | cons d r =>
      have hlr : r.length ≤ m := by simp at hm; omega
      have hsr : ∀ e ∈ r, e ∈ sgs := fun e he => hs e (.tail _ he)
      have hll : l.length = u.length + 1 + r.length := by rw [hl]; simp; omega
      cases hd : isDg d with
      | true =>
        have hnd : NoDigEnd u := hj.resolve_right fun h => by have := h d r rfl; rw [hd] at this; cases this
        obtain ⟨D, r1, hDr, hD, hr1⟩ := split_dig (d :: r)
        have hne : D ≠ [] := by rintro rfl; have := hr1 d r hDr.symm; rw [hd] at this; cases this
        have hpos : 0 < D.length := List.length_pos_iff.mpr hne
        have hlen := congrArg List.length hDr
        simp only [List.length_append, List.length_cons] at hlen
        have hcov := Cov.num 0 hc hnd hne hD
        rw [show bl 0 = [] from rfl, List.append_nil] at hcov
        have ih' := ih r1 (u ++ D) (T ++ [⟨2, u.length, u.length + D.length⟩]) l (by omega) (by rw [hl, hDr, List.append_assoc]) (fun e he => hs e (by rw [hDr]; exact List.mem_append_right _ he)) (by rw [List.reverse_append]; exact hcov) (.inr hr1)
        rw [List.append_assoc, List.length_append, List.length_append] at ih'
        rw [hDr, toksS_num hD hne hr1, plc_skip D u r1 fun h => by have := hD 46 h; cases this]
        exact ih'.step (v0 := []) (placeAt_no (by show (2 : Int) ≠ 23; decide)) (fun h => by cases h) ⟨by show u.length ≤ _; omega, by show u.length + D.length ≤ _; omega⟩
      | false =>
        by_cases h32 : d = 32
        · subst h32
          have e1 : toksS u.length (32 :: r) = toksS (u.length + 1) r := toksS_bl 1 u.length r
          rw [e1]
          have ih' := ih r (u ++ [32]) T l hlr (by rw [hl, List.append_assoc]; rfl) hsr hc.blank (.inl fun x e q => by
            have := (List.append_inj' q rfl).2
            cases this; rfl)
          rw [List.length_append] at ih'
          exact ih'
        · rw [toksS_sgn hd h32]
          have hcov := Cov.sgn 0 hc hd h32
          rw [show bl 0 = [] from rfl, List.append_nil] at hcov
          have ih' := ih r (u ++ [d]) (T ++ [⟨knd d, u.length, u.length + 1⟩]) l hlr (by rw [hl, List.append_assoc]; rfl) hsr (by rw [List.reverse_append]; exact hcov) (.inl fun x e q => by
            have := (List.append_inj' q rfl).2
            cases this; exact hd)
          rw [List.append_assoc, List.length_append, List.length_append] at ih'
          have hce := cols_eq (u ++ [d]) r l.length (by rw [hll, List.length_append]; rfl)
          rw [List.length_append, List.append_assoc] at hce
          have hl2 : u ++ ([d] ++ r) = l := hl.symm
          rw [hl2] at hce
          refine ih'.step ?_ (fun h => ⟨by rw [hl]; exact okR_of hc _, hce.2⟩) ⟨by show u.length ≤ _; omega, by show u.length + 1 ≤ _; omega⟩
          by_cases h46 : d = 46
          · subst h46
            rw [if_pos rfl, placeAt_yes rfl, hl, lines_eq hc, ← hl]
            congr 1
            exact hce.1
          · rw [if_neg h46]
            exact placeAt_no fun h => h46 ((knd23 (hs d (.head _)) hd).mp h)
theorem tokens_walked (l : List Nat) (hs : ∀ d ∈ l, d ∈ sgs) : Walked l (tokens l) 1 (plc [] l) := by
  have := walked l.length l [] [⟨0, 0, 0⟩] l (Nat.le_refl _) rfl hs (.base 0) (.inl fun x d h => by simp at h)
  unfold tokens
  rw [List.append_assoc]
  exact this
theorem places_eq (l : List Nat) (hs : ∀ d ∈ l, d ∈ sgs) : placesUp l (tokens l) (tokens l).length = plc [] l := by
  have h := tokens_walked l hs
  rw [← h.pl]
  unfold placesUp
  have e : (tokens l).length = (tokens l).length - 1 + 1 := by unfold tokens; simp
  have e0 : placeAt l (tokens l) 0 = [] := by
    unfold placeAt tokens
    rfl
  rw [List.range_eq_range', e, List.range'_succ, List.flatMap_cons, e0, List.nil_append]
  rfl
theorem toksS_len : ∀ (m at_ : Nat) (v : List Nat), v.length ≤ m → (toksS at_ v).length ≤ v.length := by
  intro m
  induction m with
  | zero => intro at_ v h; obtain rfl : v = [] := List.length_eq_zero_iff.mp (by omega); rw [toksS.eq_def]; simp
  | succ m ih =>
    intro at_ v h
    cases v with
    | nil => rw [toksS.eq_def]; simp
    | cons d r =>
      have hlr : r.length ≤ m := by simp at h; omega
      rw [toksS.eq_def]
      simp only
      split
      · have := ih (at_ + 1 + (r.takeWhile isDg).length) (r.drop (r.takeWhile isDg).length) (by rw [List.length_drop]; omega)
        rw [List.length_drop] at this
        simp only [List.length_cons]; omega
      · split
        · have := ih (at_ + 1) r hlr; simp only [List.length_cons]; omega
        · have := ih (at_ + 1) r hlr; simp only [List.length_cons]; omega
theorem toks_ok (l : List Nat) (hs : ∀ d ∈ l, d ∈ sgs) (hl : l.length ≤ 17) : Toks l (tokens l) := by
  have h := tokens_walked l hs
  refine ⟨?_, fun t ht => ?_, fun k t hk h23 => ?_⟩
  · have := toksS_len l.length 0 l (Nat.le_refl _)
    unfold tokens; simp; omega
  · obtain ⟨k, hk⟩ := List.mem_iff_getElem?.mp ht
    cases k with
    | zero =>
      have : t = ⟨0, 0, 0⟩ := by unfold tokens at hk; simpa using hk.symm
      rw [this]; exact ⟨by decide, by decide⟩
    | succ k => have := h.bd (k + 1) t (by omega) hk; omega
  · cases k with
    | zero =>
      have : t = ⟨0, 0, 0⟩ := by unfold tokens at hk; simpa using hk.symm
      rw [this] at h23; cases h23
    | succ k => exact h.ok (k + 1) t (by omega) hk h23
/-! ## what get_line_col tells -/
theorem lc_two {s t : List Nat} (hs : ∀ d ∈ s ++ 46 :: t, d ∈ sgs) (hl : (s ++ 46 :: t).length ≤ 600) (hd : 46 ∉ s) : lc (strL (s ++ 46 :: t)) = match iTL s, iTL t with
    | some a, some b => some (a, b)
    | _, _ => none := by
  have hj := PySem.StrLaws.join_split (strL (s ++ 46 :: t)) dotS
  have hf := PySem.StrLaws.split_free (strL (s ++ 46 :: t)) 46
  have hdot : dotS = ⟨#[46]⟩ := by decide +kernel
  unfold lc
  rw [hdot] at hj ⊢
  have hdl : ((⟨#[46]⟩ : Str)).cps.toList = [46] := rfl
  generalize Txt.split (strL (s ++ 46 :: t)) ⟨#[46]⟩ = P at hj hf ⊢
  have hj' := congrArg (fun x : Str => x.cps.toList) hj
  simp only [strL_cps] at hj'
  match P, hf, hj' with
  | [], _, hj' => simp [Str.join, Str.empty] at hj'
  | [p], hf, hj' =>
    exfalso
    have h1 : p.cps.toList = s ++ 46 :: t := hj'
    exact hf p (.head _) (by rw [h1]; simp)
  | p :: q :: r, hf, hj' =>
    have h1 : (p ++ (⟨#[46]⟩ : Str) ++ Str.join ⟨#[46]⟩ (q :: r)).cps.toList = s ++ 46 :: t := hj'
    rw [str_append_cps, str_append_cps, hdl, List.append_assoc] at h1
    have hp := hf p (.head _)
    obtain ⟨e1, e2⟩ : p.cps.toList = s ∧ (Str.join ⟨#[46]⟩ (q :: r)).cps.toList = t := by
      have : ∀ (a b x y : List Nat), 46 ∉ a → 46 ∉ b → a ++ 46 :: x = b ++ 46 :: y → a = b ∧ x = y := by
        intro a
        induction a with
        | nil =>
          intro b x y _ hb h
          cases b with
          | nil => cases h; exact ⟨rfl, rfl⟩
          | cons c b => cases h; exact absurd (.head _) hb
        | cons c a ih =>
          intro b x y ha hb h
          cases b with
          | nil => cases h; exact absurd (.head _) ha
          | cons c' b =>
            obtain ⟨h1, h2⟩ := List.cons.inj h
            obtain ⟨h3, h4⟩ := ih b x y (fun q => ha (.tail _ q)) (fun q => hb (.tail _ q)) h2
            exact ⟨by rw [h1, h3], h4⟩
      exact this _ _ _ _ hp hd h1
    have hpe : p = strL s := by apply Str.ext'; apply Array.toList_inj.mp; rw [strL_cps, e1]
    have hss : ∀ d ∈ s, d ∈ sgs := fun d h => hs d (List.mem_append_left _ h)
    have hts : ∀ d ∈ t, d ∈ sgs := fun d h => hs d (List.mem_append_right _ (.tail _ h))
    rw [List.length_append, List.length_cons] at hl
    cases r with
    | nil =>
      have hqe : q = strL t := by apply Str.ext'; apply Array.toList_inj.mp; rw [strL_cps, ← e2]; rfl
      unfold lcOf
      rw [hpe, hqe]
      simp only [int_eq hss (by omega), int_eq hts (by omega)]
      all_goals (cases iTL s <;> cases iTL t <;> rfl)
    | cons r0 r =>
      have : 46 ∈ t := by
        rw [← e2]
        show 46 ∈ (q ++ (⟨#[46]⟩ : Str) ++ Str.join ⟨#[46]⟩ (r0 :: r)).cps.toList
        rw [str_append_cps, str_append_cps, hdl]; simp
      rw [iTL_dot this]
      unfold lcOf
      cases iTL s <;> rfl
theorem lc_none {s : List Nat} (hd : 46 ∉ s) : lc (strL s) = none := by
  have hj := PySem.StrLaws.join_split (strL s) dotS
  have hdot : dotS = ⟨#[46]⟩ := by decide +kernel
  unfold lc
  rw [hdot] at hj ⊢
  generalize Txt.split (strL s) ⟨#[46]⟩ = P at hj ⊢
  have hj' := congrArg (fun x : Str => x.cps.toList) hj
  simp only [strL_cps] at hj'
  match P, hj' with
  | [], _ => rfl
  | [p], _ => rfl
  | [p, q], hj' =>
    exfalso
    have h1 : (p ++ (⟨#[46]⟩ : Str) ++ q).cps.toList = s := hj'
    rw [str_append_cps, str_append_cps] at h1
    exact hd (by rw [← h1]; simp)
  | p :: q :: r :: P, _ => rfl
def rowW : List Nat → List Nat → List (Int × Int)
  | _, [] => []
  | x, d :: r => (lc (strL (x ++ [d]))).toList ++ rowW (x ++ [d]) r
def toldR : List Nat → List (Int × Int)
  | [] => []
  | d :: r => rowW [] (d :: r) ++ toldR r
theorem rowW_app : ∀ (y1 x y2 : List Nat), rowW x (y1 ++ y2) = rowW x y1 ++ rowW (x ++ y1) y2
  | [], x, y2 => by rw [List.append_nil]; rfl
  | d :: y1, x, y2 => by
    show (lc (strL (x ++ [d]))).toList ++ rowW (x ++ [d]) (y1 ++ y2) = ((lc (strL (x ++ [d]))).toList ++ rowW (x ++ [d]) y1) ++ _
    rw [rowW_app y1 (x ++ [d]) y2, List.append_assoc, List.append_assoc]; rfl
theorem rowW_none : ∀ (y x : List Nat), 46 ∉ x ++ y → rowW x y = []
  | [], x, _ => rfl
  | d :: r, x, h => by
    show (lc (strL (x ++ [d]))).toList ++ rowW (x ++ [d]) r = []
    rw [rowW_none r (x ++ [d]) (by rw [List.append_assoc]; exact h), lc_none fun q => h (by
      rcases List.mem_append.mp q with q | q
      · exact List.mem_append_left _ q
      · rw [List.mem_singleton] at q; rw [q]; simp)]; rfl
theorem rowW_dot {s : List Nat} (hd : 46 ∉ s) : ∀ (t x : List Nat), (∀ d ∈ s ++ 46 :: (x ++ t), d ∈ sgs) → (s ++ 46 :: (x ++ t)).length ≤ 600 → rowW (s ++ 46 :: x) t = match iTL s with
    | some a => (preW x t).map fun b => (a, b)
    | none => []
  | [], x, _, _ => by cases iTL s <;> rfl
  | d :: t, x, hs, hl => by
    have e : s ++ 46 :: x ++ [d] = s ++ 46 :: (x ++ [d]) := by simp
    have e2 : x ++ [d] ++ t = x ++ d :: t := by simp
    have ih := rowW_dot hd t (x ++ [d]) (by rw [e2]; exact hs) (by rw [e2]; exact hl)
    have h2 := lc_two (s := s) (t := x ++ [d]) (fun f hf => hs f (by
      rcases List.mem_append.mp hf with h | h
      · exact List.mem_append_left _ h
      · refine List.mem_append_right _ ?_
        rcases List.mem_cons.mp h with rfl | h
        · exact .head _
        · refine .tail _ ?_
          rcases List.mem_append.mp h with h | h
          · exact List.mem_append_left _ h
          · rw [List.mem_singleton] at h; subst h; exact List.mem_append_right _ (.head _))) (by simp at hl ⊢; omega) hd
    show (lc (strL (s ++ 46 :: x ++ [d]))).toList ++ rowW (s ++ 46 :: x ++ [d]) t = _
    rw [e, h2, ih]
    show _ = match iTL s with | some a => ((iTL (x ++ [d])).toList ++ preW (x ++ [d]) t).map fun b => (a, b) | none => []
    cases iTL s with
    | none => rfl
    | some a =>
      cases iTL (x ++ [d]) with
      | none => rfl
      | some b => rfl
theorem row_dot {s t : List Nat} (hd : 46 ∉ s) (hs : ∀ d ∈ s ++ 46 :: t, d ∈ sgs) (hl : (s ++ 46 :: t).length ≤ 600) : rowW [] (s ++ 46 :: t) = pairsOf (iTL s).toList (preW [] t) := by
  have h1 := rowW_none s [] hd
  have h2 := rowW_dot hd t [] hs hl
  have h3 := lc_two (s := s) (t := []) (fun d h => hs d (by
    rcases List.mem_append.mp h with h | h
    · exact List.mem_append_left _ h
    · rcases List.mem_cons.mp h with rfl | h
      · simp
      · cases h)) (by simp at hl ⊢; omega) hd
  rw [rowW_app, h1, List.nil_append, List.nil_append]
  show (lc (strL (s ++ [46]))).toList ++ rowW (s ++ [46]) t = _
  rw [h3, h2]
  cases iTL s with
  | none => rfl
  | some a =>
    show [] ++ (preW [] t).map (fun b => (a, b)) = (preW [] t).map (fun b => (a, b)) ++ []
    simp
theorem told_dot {t : List Nat} : ∀ (s : List Nat), 46 ∉ s → (∀ d ∈ s ++ 46 :: t, d ∈ sgs) → (s ++ 46 :: t).length ≤ 600 → toldR (s ++ 46 :: t) = pairsOf (sufW s []) (preW [] t) ++ toldR t
  | [], hd, hs, hl => by
    show rowW [] (46 :: t) ++ toldR t = _
    have := row_dot (s := []) (t := t) (by simp) hs hl
    rw [List.nil_append] at this
    rw [this]; rfl
  | d :: s, hd, hs, hl => by
    show rowW [] ((d :: s) ++ 46 :: t) ++ toldR (s ++ 46 :: t) = _
    rw [row_dot hd hs hl, told_dot s (fun h => hd (.tail _ h)) (fun e he => hs e (.tail _ he)) (by simp at hl ⊢; omega)]
    show _ = pairsOf ((iTL (d :: (s ++ []))).toList ++ sufW s []) (preW [] t) ++ toldR t
    rw [List.append_nil]
    unfold pairsOf
    rw [List.flatMap_append, List.append_assoc]
theorem told_none : ∀ (s : List Nat), 46 ∉ s → toldR s = []
  | [], _ => rfl
  | d :: s, h => by
    show rowW [] (d :: s) ++ toldR s = []
    rw [rowW_none (d :: s) [] h, told_none s fun q => h (.tail _ q)]; rfl
theorem split_dot (v : List Nat) : 46 ∉ v ∨ ∃ s t, v = s ++ 46 :: t ∧ 46 ∉ s := by
  induction v with
  | nil => exact .inl (by simp)
  | cons d r ih =>
    by_cases h : d = 46
    · exact .inr ⟨[], r, by rw [h]; rfl, by simp⟩
    · rcases ih with h1 | ⟨s, t, h1, h2⟩
      · exact .inl fun q => by
          rcases List.mem_cons.mp q with q | q
          · exact h q.symm
          · exact h1 q
      · exact .inr ⟨d :: s, t, by rw [h1]; rfl, fun q => by
          rcases List.mem_cons.mp q with q | q
          · exact h q.symm
          · exact h2 q⟩
theorem plc_told : ∀ (m : Nat) (v u : List Nat), v.length ≤ m → (u = [] ∨ ∃ u', u = u' ++ [46]) → (∀ d ∈ v, d ∈ sgs) → v.length ≤ 600 → plc u v = toldR v := by
  intro m
  induction m with
  | zero => intro v u h _ _ _; obtain rfl : v = [] := List.length_eq_zero_iff.mp (by omega); rfl
  | succ m ih =>
    intro v u hm hu hs hl
    rcases split_dot v with h | ⟨s, t, rfl, hd⟩
    · rw [told_none v h]
      have := plc_skip v u [] h
      rw [List.append_nil] at this
      rw [this]; rfl
    · rw [told_dot s hd hs hl, plc_skip s u _ hd]
      show (if 46 = 46 then pairsOf (sufW (u ++ s) []) (preW [] t) else []) ++ plc (u ++ s ++ [46]) t = _
      rw [if_pos rfl, ih t (u ++ s ++ [46]) (by simp at hm; omega) (.inr ⟨u ++ s, rfl⟩) (fun d h => hs d (List.mem_append_right _ (.tail _ h))) (by simp at hl; omega), sufW_app, List.append_nil]
      have : sufW u s = [] := by
        rcases hu with rfl | ⟨u', rfl⟩
        · rfl
        · exact sufW_snoc_bad (bad_dot s)
      rw [this]; rfl
theorem toldRow_eq (l : List Nat) (i : Nat) : ∀ n, i + n ≤ l.length → toldRow l i n = rowW [] ((l.drop i).take n) := by
  intro n
  induction n with
  | zero => intro _; rfl
  | succ n ih =>
    intro hn
    have hlt : n < (l.drop i).length := by rw [List.length_drop]; omega
    have e : (l.drop i).take (n + 1) = (l.drop i).take n ++ [(l.drop i)[n]] := by
      rw [List.take_add_one, List.getElem?_eq_getElem hlt]; rfl
    rw [toldRow_succ, ih (by omega), e, rowW_app, List.nil_append]
    congr 1
    show _ = (lc (strL ((l.drop i).take n ++ [(l.drop i)[n]]))).toList ++ []
    rw [← e, List.append_nil]
    unfold cutL
    rw [List.drop_take, show i + 1 + n - i = n + 1 by omega]
theorem told_range : ∀ (l : List Nat), (List.range l.length).flatMap (fun i => rowW [] (l.drop i)) = toldR l
  | [] => rfl
  | d :: r => by
    rw [List.length_cons, List.range_succ_eq_map, List.flatMap_cons, List.flatMap_map]
    show rowW [] (d :: r) ++ (List.range r.length).flatMap (fun i => rowW [] (r.drop i)) = rowW [] (d :: r) ++ toldR r
    rw [told_range r]
theorem toldUp_eq (l : List Nat) : toldUp l l.length = toldR l := by
  rw [← told_range]
  unfold toldUp
  have : ∀ (L : List Nat), (∀ i ∈ L, i < l.length) → L.flatMap (fun i => toldRow l i (l.length - i)) = L.flatMap (fun i => rowW [] (l.drop i)) := by
    intro L
    induction L with
    | nil => intro _; rfl
    | cons i L ih =>
      intro h
      have hi := h i (.head _)
      rw [List.flatMap_cons, List.flatMap_cons, ih fun j hj => h j (.tail _ hj), toldRow_eq l i _ (by omega)]
      congr 2
      exact List.take_of_length_le (by rw [List.length_drop]; omega)
  exact this _ fun i hi => List.mem_range.mp hi
theorem law_plain (l : List Nat) (hs : ∀ d ∈ l, d ∈ sgs) (hl : l.length ≤ 17) : toldUp l l.length = placesUp l (tokens l) (tokens l).length := by
  rw [places_eq l hs, toldUp_eq, plc_told l.length l [] (Nat.le_refl _) (.inl rfl) hs (by omega)]
end Mine

namespace Mine
theorem plain_toks (ns : List Int) : Toks (textL ns) (tokens (textL ns)) := toks_ok _ (textL_sgs ns) (textL_len ns)
theorem plain_law (ns : List Int) : toldUp (textL ns) (textL ns).length = placesUp (textL ns) (tokens (textL ns)) (tokens (textL ns)).length := law_plain _ (textL_sgs ns) (textL_len ns)
theorem wellAll_ints {P : Params} {h : Heap} : ∀ {ns : List Int} {vs : List Value}, WellAll P h vs (ofPys (ns.map PyData.int)) → All2 (Pt.Is h) (ns.map pI) vs
  | [], _, x => by cases x; trivial
  | n :: ns, _, x => by
    cases x with
    | cons hx hr =>
      cases hx with
      | int i t => exact ⟨⟨t, rfl⟩, wellAll_ints hr⟩
theorem well_list {P : Params} {h : Heap} {a : Addr} {ns : List Int} (x : Well P h (.ref a) (ofPy (PyData.list (ns.map PyData.int)))) : Lst h a (ns.map pI) := by
  cases x with
  | list e r => exact ⟨_, ⟨0, e⟩, wellAll_ints r⟩
theorem lawA {env : Env} : AOk 5 (callerA.deeper env) := ⟨rfl, (by show callerA.depth + 1 + 5 < recursionLimit; decide), (by show callerA.units + 3 + 10 * 5 < 9000; decide)⟩
theorem pairs_ok (l : List (Int × Int)) : (l.map pairP).all Pt.ok = true := by
  rw [List.all_map, List.all_eq_true]
  intro p _
  rfl
theorem text_str (ns : List Int) : strL (textL ns) = Txt.join (Str.ofString "") (((ns.take 12).map sgOf).map fun d => (⟨#[d]⟩ : Str)) ++ Str.ofString "256.0" := by
  rw [join_ones', show Str.ofString "256.0" = strL [50, 53, 54, 46, 48] by decide +kernel, strL_append]; rfl
theorem sg_cps : (Str.ofString "0123456789..+- =").cps = sg16.toArray := by decide +kernel
theorem sg_item (x : Int) : (Str.ofString "0123456789..+- =").cps[(x.fmod 16).toNat]? = some (sgOf x) := by
  rw [sg_cps, List.getElem?_toArray]; exact sgOf_get x
def sgF : Pt → List Pt
  | .a (.int i) => [pS ⟨#[sgOf i]⟩]
  | _ => []
theorem sgF_flat (l : List Int) : (l.map pI).flatMap sgF = ((l.map sgOf).map fun d => (⟨#[d]⟩ : Str)).map pS := by
  induction l with
  | nil => rfl
  | cons a r ih => simp only [List.map_cons, List.flatMap_cons, ih]; rfl
theorem ones_sum (l : List Nat) : ((l.map fun d => (⟨#[d]⟩ : Str)).map (·.length)).sum = l.length := by
  induction l with
  | nil => rfl
  | cons a r ih => simp only [List.map_cons, List.sum_cons, ih, List.length_cons]; show 1 + _ = _; omega
set_option maxHeartbeats 8000000 in
theorem law1 : PySem.Challenge.rw_mr0163_01.Holds := by
  refine hd1 ?_
  k_go0
  rename_i w s₀ s₁ mg mb G Y fa o pm doc kV ho hg KX X V GL T B TE TW w9 w8 M w7 w6 hcd ns hs hlay0 hL1 hr1 hl2 w4 w3 a vs w' hL ra w1 r0 hI hr hc1 hc2 K0 hD h₁ F N0
  have hl := well_list w1
  have amb : Amb (K1 w) s₁.heap := ⟨KX, _, _, _, _, topRead_of T⟩
  have hlen : ns.length ≤ 63 := by omega
  clear G Y o ho X V GL T B TE TW M w9 w8 hs hlay0 hL1 hr1 hl2 w4 w3 vs w' hL ra w1 r0 hI hr hc1 hc2 K0 hD N0 hcd
  refine start F rfl rfl rfl amb hl (fun s I => ?_)
  have hl17 := textL_len ns
  have hsgs := textL_sgs ns
  have hlaw := plain_law ns
  have htoks := plain_toks ns
  refine W.assign (p := pS (strL (textL ns))) I ?_ (.inl rfl) (fun s₂ I2 => ?_)
  · rw [text_str]
    refine .addS (.join .cStr (ys := ((ns.take 12).map sgOf).map fun d => (⟨#[d]⟩ : Str)) ?_ (by decide) ?_) .cStr ?_
    · rw [← sgF_flat]
      refine (ExpF.comp [] [] sgF (.any lawA.handled (by rw [List.map_take]; exact .uptoL (n := 12) (.var rfl rfl rfl) .cInt (by rw [List.length_map]; unfold sizeLine; omega))) ⟨by rfl, by decide, by rfl, by decide, by rfl, (fun y b e => (by cases e)), (fun p hp => (by cases hp))⟩ ?_ (fun C B p γ' hp => ?_)).exp
      · rw [List.length_map, List.length_take]; unfold sizeLine; omega
      · obtain ⟨i, _, rfl⟩ := List.mem_map.mp hp
        exact .one (.itemS .cStr (.mod (.var rfl rfl rfl) .cInt (by decide)) (sg_item i) (fmod16 i).1 (Int.lt_trans (fmod16 i).2 (by decide)))
    · rw [ones_sum]; simp only [List.length_map, List.length_take]; omega
    · rw [join_ones', strL_length, List.length_map, List.length_take, show (Str.ofString "256.0").length = 5 by decide +kernel]; unfold sizeLine; omega
  generalize hL : textL ns = L at hl17 hsgs hlaw htoks I2
  have hxl : (strL L).length = L.length := strL_length L
  refine W.assignF I2 (.list (ps := []) (by exact .nil)) (.inl rfl) (fun b s₃ hb I3 => ?_)
  have hbB := none_from I2.keep hb
  refine W.for_ (Rt := fun _ _ => False) (fun i => [("told", .l b ((toldUp L i).map pairP)), ("text", cS (strL L))]) (I3.sub (by simp only [List.forall_mem_cons]; exact ⟨rfl, rfl, by simp⟩)) (by exact .range1 lawA.handled (.lenS (.var rfl rfl rfl) (by omega)) (by rfl) (by rfl) (by omega)) (.inl rfl) (fun i p γ' s' hp hγ I4 => ?_) (fun s' I4 => ?_) (fun v s' h => h.elim)
  · obtain ⟨hpi, hlt⟩ := rng_get hp
    rw [Int.zero_add] at hpi
    subst hpi
    have hlt' : i < L.length := by omega
    have hγb : ∀ q ∈ γ'.objs, q.1 ≠ b := fun q hq => (hγ q hq).elim (fun h => by cases h) fun h => h.elim (fun h => by
      rintro rfl
      obtain ⟨vs, ⟨n, e⟩, _⟩ := I3.list (x := "told") rfl rfl
      rw [h] at e; cases e) fun h => h.elim
    refine W.for_ (Rt := fun _ _ => False) (fun j => [("told", .l b ((toldUp L i ++ toldRow L i j).map pairP)), ("start", cI i), ("text", cS (strL L))]) (I4.sub ?_) (by exact .range2 lawA.handled (.add (.var rfl rfl rfl) .cInt) (.add (.lenS (.var rfl rfl rfl) (by omega)) .cInt) (by rfl) (by rfl) (by omega) (by omega)) (.inl rfl) (fun j p γ'' s'' hp hγ'' I5 => ?_) (fun s'' I5 => ?_) (fun v s' h => h.elim)
    · simp only [List.forall_mem_cons]
      refine ⟨?_, rfl, rfl, by simp⟩
      show some _ = some _
      simp [toldRow]
    · obtain ⟨hpj, hltj⟩ := rng_get hp
      subst hpj
      have hγ2 : ∀ q ∈ γ''.objs, q.1 ≠ b := fun q hq => (hγ'' q hq).elim (fun h => hγb q h) fun h => h.elim (fun h => by
        rintro rfl
        obtain ⟨vs, ⟨n, e⟩, _⟩ := I4.list (x := "told") rfl rfl
        rw [h] at e; cases e) fun h => h.elim
      have hcut : ∀ d ∈ cutL L i (i + 1 + j), d ∈ sgs := fun d hd => hsgs d (mem_cut hd)
      have hcl : (cutL L i (i + 1 + j)).length ≤ 600 := by unfold cutL; rw [List.length_drop, List.length_take]; omega
      refine wpAny_execs_cons (wpAny_Expr_any ?_ (by rfl))
      refine extend_raw (qs := toldL (strL (cutL L i (i + 1 + j)))) I5 rfl rfl ?_ hbB hγ2 ?_ (fun v s₆ I6 => W.nil (I6.sub ?_))
      · refine call_raw I5 (f := 81) (nm := "_law_told") (xs := [vS (strL (cutL L i (i + 1 + j)))]) (by rfl) (by rfl) (by rfl) (.cons (by
          rw [← slice_strL (by omega) (by omega), show (((i + 1 + j : Nat)) : Int) = (i : Int) + 1 + (j : Nat) by omega]
          exact .sliceS (.var rfl rfl rfl) (.var rfl rfl rfl) (.var rfl rfl rfl) (by unfold sizeLine; omega)) .nil) (fun vs s₆ e6 q => ?_)
        match vs, q with
        | [v], ⟨⟨t', hv⟩, _⟩ =>
        subst hv
        have I6 := I5.ext e6
        obtain ⟨mm, hmm, _⟩ := I6.frm.loc
        refine wpAny_call (codeAny_mono (told_ok (AOk.le lawA (by decide)) rfl rfl rfl ⟨mm, hmm⟩ amb I6.keep I6.frm.newL (fit_of hcut hcl)) (fun r s' ⟨a', hr, u, hn, hl⟩ => ?_))
        subst hr
        refine ⟨I6.extU u, a', rfl, ?_, hl⟩
        rintro rfl
        obtain ⟨vs, ⟨n, e⟩, _⟩ := I6.list (x := "told") rfl rfl
        rw [hn] at e; cases e
      · rw [toldL_eq, List.length_map, List.length_map, List.length_append]
        have h1 := toldUp_len L i
        have h2 := toldRow_len L i j
        have h3 : (lc (strL (cutL L i (i + 1 + j)))).toList.length ≤ 1 := by cases lc _ <;> simp
        have h4 : L.length * i ≤ 17 * 17 := Nat.mul_le_mul hl17 (by omega)
        omega
      · simp only [List.forall_mem_cons]
        refine ⟨?_, rfl, rfl, by simp⟩
        show some (setL b _ (.l b _)) = _
        rw [toldRow_succ, toldL_eq]
        simp [setL]
    · rw [rng_length, show ((((strL L).length : Int) + 1) - ((i : Int) + 1)).toNat = L.length - i by omega] at I5
      refine W.nil (I5.sub ?_)
      rw [toldUp_succ]
      simp only [List.forall_mem_cons]
      exact ⟨rfl, rfl, by simp⟩
  · rw [rng_length, show (((strL L).length : Int) - 0).toNat = L.length by omega] at I4
    refine W.ite (b := false) I4 (.cmp (.var rfl rfl rfl) (.call (z := .l ((toldUp L L.length).map pairP)) (n := 3) ?_ (AOk.le lawA (by decide)) (by rfl) (by rfl) (by rfl) (.cons (.var rfl rfl rfl) .nil)) (.neL lawA (pairs_ok _))) (fun s₅ I5 => ?_)
    · rw [hlaw]
      have := places_ok w (strL L) (by rw [strL_cps]; exact hsgs) (by rw [strL_cps]; exact hl17) (by rw [strL_cps]; exact htoks)
      rw [strL_cps] at this
      exact this
    rw [if_neg (by simp)]
    refine W.nil ?_
    refine W.for_ (Rt := fun _ _ => False) (fun _ => [("told", .l b ((toldUp L L.length).map pairP))]) (I5.sub (by simp only [List.forall_mem_cons]; exact ⟨rfl, by simp⟩)) (by exact .any lawA.handled (.var rfl rfl rfl)) (.inl rfl) (fun i p γ' s' hp hγ I6 => ?_) (fun s' I6 => ?_) (fun v s' h => h.elim)
    · rw [List.getElem?_map] at hp
      cases hpr : (toldUp L L.length)[i]? with
      | none => rw [hpr] at hp; cases hp
      | some pr =>
      rw [hpr] at hp; cases hp
      refine W.for_ (Rt := fun _ _ => False) (fun _ => [("pair", .p (pairP pr)), ("told", .l b ((toldUp L L.length).map pairP))]) I6 (by exact .tup (xs := [.int pr.1, .int pr.2]) lawA.handled (.var rfl rfl rfl)) (.inl rfl) (fun j p γ'' s'' hp hγ'' I7 => ?_) (fun s'' I7 => ?_) (fun v s' h => h.elim)
      · obtain ⟨k, rfl⟩ : ∃ k, p = pI k := by
          have := List.mem_of_getElem? hp
          simp only [List.map_cons, List.map_nil, List.mem_cons, List.not_mem_nil, or_false] at this
          rcases this with h | h <;> exact ⟨_, h⟩
        refine W.ite (b := false) I7 (.or2 (a := false) (b := false) (.val (.isiIntBool (.var rfl rfl rfl))) (fun _ => .not (b := true) (.val (.isiIntInt (.var rfl rfl rfl))))) (fun s₈ I8 => ?_)
        rw [if_neg (by simp)]
        refine W.nil ?_
        refine W.assignF (ps := [pB (decide (k < 256)), pB (decide (256 ≤ k)), pB (k == 0)]) I8 (.list (by exact .cons (.call (isterm_ok w k) (AOk.le lawA (by decide)) (by rfl) (by rfl) (by rfl) (.cons (.var rfl rfl rfl) .nil)) (.cons (.call (isnont_ok w k) (AOk.le lawA (by decide)) (by rfl) (by rfl) (by rfl) (.cons (.var rfl rfl rfl) .nil)) (.cons (.call (iseof_ok w k) (AOk.le lawA (by decide)) (by rfl) (by rfl) (by rfl) (.cons (.var rfl rfl rfl) .nil)) .nil)))) (.inl rfl) (fun aA s₉ haA I9 => ?_)
        refine W.ite (b := false) I9 (.cmp (x := .l [pB (decide (k < 256)), pB (decide (256 ≤ k)), pB (k == 0)]) (y := .l [pB (decide (k < 256)), pB (decide (256 ≤ k)), pB (k == 0)]) (.var rfl rfl rfl) ?_ (.neL lawA (by rfl))) (fun s₁₀ I10 => ?_)
        · rw [ans_eq]
          exact .list (by exact .cons (.cmpB (.fdiv (.var rfl rfl rfl) .cInt (by decide) (by decide)) .cInt .lt) (.cons (.cmpB (.fdiv (.var rfl rfl rfl) .cInt (by decide) (by decide)) .cInt .gt) (.cons (.cmpB (.abs (.var rfl rfl rfl)) .cInt .lt) .nil)))
        rw [if_neg (by simp)]
        refine W.nil ?_
        refine W.ite (b := false) I10 (.cmp (x := .l []) (y := .l []) ?_ (.list (ps := []) (by exact .nil)) (.neL lawA (by rfl))) (fun s₁₁ I11 => ?_)
        · have hE : ∀ l : List Pt, [] = l.flatMap (fun _ => ([] : List Pt)) := fun l => by simp
          rw [hE [pB (decide (k < 256)), pB (decide (256 ≤ k)), pB (k == 0)]]
          refine (ExpF.comp [] [] (fun _ => []) (.any lawA.handled (.var rfl rfl rfl)) ⟨by rfl, by decide, by rfl, by decide, by rfl, (fun y b e => (by cases e)), (fun p hp => (by cases hp))⟩ (by simp only [List.length_cons, List.length_nil]; unfold sizeLine; omega) (fun C B p γ' hp => ?_)).exp
          obtain ⟨bb, rfl⟩ : ∃ bb, p = pB bb := by
            simp only [List.mem_cons, List.not_mem_nil, or_false] at hp
            rcases hp with h | h | h <;> exact ⟨_, h⟩
          exact .skip (.not (b := true) (.val (.isiBoolBool (.var rfl rfl rfl))))
        rw [if_neg (by simp)]
        refine W.nil (W.nil (I11.sub ?_))
        simp only [List.forall_mem_cons]
        exact ⟨rfl, rfl, by simp⟩
      · refine W.nil (I7.sub ?_)
        simp only [List.forall_mem_cons]
        exact ⟨rfl, by simp⟩
    · refine W.ret I6 (x := vB true) .cBool (fun v s'' e1 q => ?_)
      have ex := I6.toExt.trans e1
      cases q
      refine ⟨.inl ⟨.bool true, .bool true, [], rfl, raisesW_false ?_, .bool true, ?_, unshared_nil⟩, ex.keep, (by rw [ex.rest]), (by rw [ex.rest]; exact hg)⟩
      · wrow_none_raised
      · kc_post
end Mine
theorem PySem.Challenge.cw_mr0163_01_holds : PySem.Challenge.rw_mr0163_01.Holds :=
  Mine.law1

